/- Rows of steps of the call's own, each with a row of places, that grow. No function of the program in sight. -/
import Derived.Test.YtofidkkihkgagaaSegP
import Derived.Maps.AppendAt
namespace Go.Proofs.Ytofidkkihkgagaa.SegR
open Go.ChangeShapes Go.WideShapes Go.RowKit
open Lst Mem SegM SegB SegO

/-- append onto a row of the call's own as one step of a region that draws: elements of whatever size -/
theorem step_app2 {P : Program} {ops : Array Oper} {o : Oper} {a : Act} {w : World} {K : Act → World → Prop} {Q : Exit → Act → World → Prop} {E : Prop} (hgd : o.guard = none) (s x : Operand) (t : TypeId)
    (ho : o.op = .call { callee := .builtin .append, args := #[s, x], argTypes := #[t, t] })
    (base : Nat) (e : TypeId) (i : TypeInfo) (z : Value) (size bytes : Nat) (ht : P.underlying t = some (.slice e)) (hi : P.info? e = some i) (hz : i.zero = some z)
    (hsize : i.size = size) (hby : i.bytes = bytes) (hzs : z.cells.size = size) (hsz : 0 < size)
    (v : Value) (n : Nat) (xs : List Value) (hs : a.eval s = v) (hown : w.ownsRow base e size v n xs)
    (ad : Addr) (m c : Nat) (news : List Value) (hx : a.eval x = .slice (some ad) m c) (hl : news.length = m * size) (hr : ∀ j u, news[j]? = some u → w.cell? (ad.add j) = some u) (h1 : ∀ u ∈ news, u.oneCell' = true)
    (h63 : n + m ≤ maxLen) (hbytes : (n + m) * bytes ≤ 140737488355328) (hbase : base ≤ w.heap.size)
    (h : ∀ v' w', w'.ownsRow base e size v' (n + m) (xs ++ news) → w.grownBy w' v.ownBlock → (v' = .slice none 0 0 ↔ v = .slice none 0 0 ∧ m = 0) → (v'.ownBlock = v.ownBlock ∨ v'.ownBlock = some w.heap.size) → K (a.put o.dst v') w') :
    if Region.wanted o (yielded ops a.tmps) = true then Oper.wp P o a w K Q else E := by
  have hw : Region.wanted o (yielded ops a.tmps) = true := by simp [Region.wanted, hgd]
  rw [if_pos hw]
  obtain ⟨v', w', hrun, h2, h3, h4, h5⟩ := run_append_own_at (P := P) w base t o.type e i z size bytes ht hi hz hsize hby hzs hsz v n xs hown ad m c news hl hr h1 h63 hbytes hbase
  unfold Oper.wp execOp
  simp only [ho, resolve, invoke, builtin, Sem.run_bind, Sem.run_pure, Result.andThen_ok, List.map_toArray, List.map_cons, List.map_nil, hs, hx, hrun]
  exact h v' w' h2 h3 h4 h5

theorem bel_alloc' (w : World) (o : Obj) : Below w.heap.size w (w.alloc o) := (Below.refl _ _).alloc (Nat.le_refl _) _
/-- block g is a row of cells of type T, none of them frozen -/
def IsT (w : World) (g : Nat) (T : TypeId) : Prop := ∃ cur, w.heap[g]? = some (.cells cur T (0, 0))
theorem IsT.lt {w : World} {g : Nat} {T : TypeId} (h : IsT w g T) : g < w.heap.size := by obtain ⟨_, h⟩ := h; exact (Array.getElem?_eq_some_iff.1 h).1
theorem own_isT {w : World} {B n sz : Nat} {e : TypeId} {v : Value} {xs : List Value} (h : w.ownsRow B e sz v n xs) {g : Nat} (hg : v.ownBlock = some g) : IsT w g e ∧ B ≤ g := by
  rcases h.2 with ⟨rfl, _⟩ | ⟨g', cap, cur, rfl, hb, hh, _⟩
  · cases hg
  · simp only [Value.ownBlock, Option.some.injEq] at hg
    subst hg
    exact ⟨⟨_, hh⟩, hb⟩
theorem IsT.ne {w : World} {g g' : Nat} {T T' : TypeId} (h : IsT w g T) (h' : IsT w g' T') (hne : T ≠ T') : g ≠ g' := by
  obtain ⟨c, h⟩ := h
  obtain ⟨c', h'⟩ := h'
  intro e
  subst e
  rw [h] at h'
  simp at h'
  exact hne h'.2
theorem blk_grown {b : Nat} {t : TypeId} {cs : List Value} {w w' : World} {r : Option Nat} (h : Blk b t cs w) (hg : w.grownBy w' r) (hne : r ≠ some b) : Blk b t cs w' := by
  unfold Blk
  rw [hg.block b h.lt (fun e => hne e.symm)]
  exact h
theorem own_lt {w : World} {B n sz : Nat} {e : TypeId} {v : Value} {xs : List Value} (h : w.ownsRow B e sz v n xs) {g : Nat} (hg : v.ownBlock = some g) : g < w.heap.size := (own_isT h hg).1.lt
theorem own_ne {w : World} {B n sz : Nat} {e : TypeId} {v : Value} {xs : List Value} (h : w.ownsRow B e sz v n xs) {g : Nat} (hg : g < B ∨ w.heap.size ≤ g) : v.ownBlock ≠ some g := fun he => by
  have h1 := own_lt h he
  have h2 := (own_isT h he).2
  omega
theorem own_far {w : World} {B B' n n' sz sz' : Nat} {e e' : TypeId} {v v' : Value} {xs xs' : List Value} (h : w.ownsRow B e sz v n xs) (h' : w.ownsRow B' e' sz' v' n' xs') (hne : e ≠ e') : v.ownBlock = none ∨ v.ownBlock ≠ v'.ownBlock := by
  cases he : v.ownBlock with
  | none => exact .inl rfl
  | some g =>
    refine .inr fun h2 => ?_
    have h1 := (own_isT h he).1
    have h3 := (own_isT h' h2.symm).1
    exact (h1.ne h3 hne) rfl
theorem own_set {w : World} {B n sz : Nat} {e : TypeId} {v : Value} {xs : List Value} (h : w.ownsRow B e sz v n xs) {a : Addr} (ha : a.block < B) (u : Value) : (w.setCell a u).ownsRow B e sz v n xs := by
  refine ⟨h.1, ?_⟩
  rcases h.2 with hn | ⟨g, cap, cur, hv, hg, hh, rest⟩
  · exact .inl hn
  · exact .inr ⟨g, cap, cur, hv, hg, by rw [Below.heap_setCell _ _ _ _ (by omega)]; exact hh, rest⟩
theorem two_cells {b : Nat} {t : TypeId} {x y : Value} {w : World} (h : Blk b t [x, y] w) : ∀ q u, [x, y][q]? = some u → w.cell? ((⟨b, 0, none⟩ : Addr).add q) = some u := fun q u hq => by
  rw [Addr.add_lit, Nat.zero_add]
  exact h.cell hq
theorem two_ints (px py : Int) : ∀ u ∈ [Value.int .i64 px, .int .i64 py], u.oneCell' = true := fun u hu => by simp at hu; rcases hu with rfl | rfl <;> rfl
theorem two_any (x : Int) (A : Option Addr) (n c : Nat) : ∀ u ∈ [Value.int .i64 x, .slice A n c], u.oneCell' = true := fun u hu => by simp at hu; rcases hu with rfl | rfl <;> rfl
/-- rows of places stay where a block of another type grows -/
def Pts (w : World) (B g : Nat) (T : TypeId) (l : List Pt) : Prop := IsT w g T ∧ At w g 0 (l.flatMap (ptc .i64)) ∧ B ≤ g
theorem at_block {w w' : World} {g off : Nat} {xs : List Value} (h : At w g off xs) (hb : w'.heap[g]? = w.heap[g]?) : At w' g off xs := fun j u hu => by
  have := h j u hu
  rw [World.cell?_of_block (a := ⟨g, off + j, none⟩) hb]
  exact this
theorem Pts.block {w w' : World} {B g : Nat} {T : TypeId} {l : List Pt} (h : Pts w B g T l) (hb : w'.heap[g]? = w.heap[g]?) : Pts w' B g T l := by
  obtain ⟨⟨c, hc⟩, ha, hB⟩ := h
  exact ⟨⟨c, hb.trans hc⟩, at_block ha hb, hB⟩

theorem own_base' {w : World} {B B' n sz : Nat} {e : TypeId} {v : Value} {xs : List Value} (h : w.ownsRow B e sz v n xs) (hB : B' ≤ B) : w.ownsRow B' e sz v n xs := by
  refine ⟨h.1, ?_⟩
  rcases h.2 with hn | ⟨g, cap, cur, hv, hg, rest⟩
  · exact .inl hn
  · exact .inr ⟨g, cap, cur, hv, by omega, rest⟩
/-- steps in a row of the call's own, each with its row of places -/
def StepRow (w : World) (B : Nat) (T TP : TypeId) (v : Value) (S : List Sg) : Prop :=
  ∃ cs : List Value, w.ownsRow B T 2 v S.length cs ∧ v ≠ .slice none 0 0 ∧ ∀ i, i < S.length → cs[i * 2]? = some (.int .i64 (S.getD i (0, [])).1) ∧ ∃ g c, cs[i * 2 + 1]? = some (.slice (some ⟨g, 0, none⟩) (S.getD i (0, [])).2.length c) ∧ Pts w B g TP (S.getD i (0, [])).2
theorem StepRow.new (w : World) (B : Nat) (T TP : TypeId) (hB : B ≤ w.heap.size) : StepRow (w.alloc (.cells #[] T)) B T TP (.slice (some ⟨w.heap.size, 0, none⟩) 0 0) [] :=
  ⟨[], own_base' (World.ownsRow_made (base := w.heap.size) (e := T) (size := 2) w #[] 0 (Nat.le_refl _) (Nat.zero_le _) (by simp)) hB, by simp, fun i h => absurd h (by simp)⟩
theorem StepRow.ge {w : World} {B : Nat} {T TP : TypeId} {v : Value} {S : List Sg} (h : StepRow w B T TP v S) {g : Nat} (hg : v.ownBlock = some g) : IsT w g T ∧ B ≤ g := by
  obtain ⟨cs, ho, _⟩ := h
  exact own_isT ho hg
/-- all of them stay in a world where each block of theirs is as it was -/
theorem StepRow.blocks {w w' : World} {B : Nat} {T TP : TypeId} {v : Value} {S : List Sg} (h : StepRow w B T TP v S) (hb : ∀ g, B ≤ g → IsT w g T ∨ IsT w g TP → w'.heap[g]? = w.heap[g]?) : StepRow w' B T TP v S := by
  obtain ⟨cs, ho, hn, hi⟩ := h
  refine ⟨cs, ⟨ho.1, ?_⟩, hn, fun i hl => ?_⟩
  · rcases ho.2 with hv | ⟨g, cap, cur, rfl, hg, hh, rest⟩
    · exact .inl hv
    · exact .inr ⟨g, cap, cur, rfl, hg, by rw [hb g hg (.inl ⟨_, hh⟩)]; exact hh, rest⟩
  · obtain ⟨h1, g, c, h2, h3⟩ := hi i hl
    exact ⟨h1, g, c, h2, h3.block (hb g h3.2.2 (.inr h3.1))⟩
theorem StepRow.below {w w' : World} {B : Nat} {T TP : TypeId} {v : Value} {S : List Sg} (h : StepRow w B T TP v S) (hb : Below w.heap.size w w') : StepRow w' B T TP v S :=
  h.blocks fun g _ hg => hb.block g (by rcases hg with h | h <;> exact h.lt)
/-- a row of another type grows -/
theorem StepRow.grown {w w' : World} {B : Nat} {T TP T' : TypeId} {v : Value} {S : List Sg} {r : Option Nat} (h : StepRow w B T TP v S) (hg : w.grownBy w' r) (hr : ∀ b, r = some b → IsT w b T') (h1 : T' ≠ T) (h2 : T' ≠ TP) : StepRow w' B T TP v S :=
  h.blocks fun g _ hh => hg.block g (by rcases hh with h | h <;> exact h.lt) (fun e => by
    have hb := hr g e.symm
    rcases hh with h | h
    · exact (hb.ne h h1) rfl
    · exact (hb.ne h h2) rfl)
/-- one step more: the row laid open -/
theorem StepRow.push {w w' : World} {B : Nat} {T TP : TypeId} {v v' : Value} {S : List Sg} {s : Sg} {g c : Nat} {cs : List Value} (hT : T ≠ TP) (hc : w.ownsRow B T 2 v S.length cs)
    (hi : ∀ i, i < S.length → cs[i * 2]? = some (.int .i64 (S.getD i (0, [])).1) ∧ ∃ g c, cs[i * 2 + 1]? = some (.slice (some ⟨g, 0, none⟩) (S.getD i (0, [])).2.length c) ∧ Pts w B g TP (S.getD i (0, [])).2) (hp : Pts w B g TP s.2)
    (hg : w.grownBy w' v.ownBlock) (hn : v' ≠ .slice none 0 0) (ho : w'.ownsRow B T 2 v' (S.length + 1) (cs ++ [.int .i64 s.1, .slice (some ⟨g, 0, none⟩) s.2.length c])) : StepRow w' B T TP v' (S ++ [s]) := by
  have hcl : cs.length = S.length * 2 := hc.1
  have keep : ∀ g, IsT w g TP → w'.heap[g]? = w.heap[g]? := fun q hq => hg.block q hq.lt (fun e => by
    have hb := (own_isT hc e.symm).1
    exact (hb.ne hq hT) rfl)
  refine ⟨_, by rw [List.length_append]; exact ho, hn, fun i hl => ?_⟩
  rw [List.length_append, List.length_singleton] at hl
  by_cases hk : i < S.length
  · obtain ⟨h1, q, c', h2, h3⟩ := hi i hk
    have hgd : (S ++ [s]).getD i (0, []) = S.getD i (0, []) := by
      rw [List.getD_eq_getElem?_getD, List.getD_eq_getElem?_getD, List.getElem?_append_left hk]
    rw [hgd]
    refine ⟨?_, q, c', ?_, h3.block (keep q h3.1)⟩
    · rw [List.getElem?_append_left (by rw [hcl]; omega)]; exact h1
    · rw [List.getElem?_append_left (by rw [hcl]; omega)]; exact h2
  · have hik : i = S.length := by omega
    subst hik
    have hgd : (S ++ [s]).getD S.length (0, []) = s := by simp [List.getD_eq_getElem?_getD]
    rw [hgd]
    refine ⟨?_, g, c, ?_, hp.block (keep g hp.1)⟩
    · rw [List.getElem?_append_right (by rw [hcl]; omega), hcl]; simp
    · rw [List.getElem?_append_right (by rw [hcl]; omega), hcl, show S.length * 2 + 1 - S.length * 2 = 1 by omega]; rfl
theorem Pts.below {w w' : World} {B g : Nat} {T : TypeId} {l : List Pt} (h : Pts w B g T l) (hb : Below w.heap.size w w') : Pts w' B g T l := h.block (hb.block g h.1.lt)
theorem Pts.grown {w w' : World} {B g : Nat} {T T' : TypeId} {l : List Pt} {r : Option Nat} (h : Pts w B g T l) (hg : w.grownBy w' r) (hr : ∀ b, r = some b → IsT w b T') (h1 : T' ≠ T) : Pts w' B g T l :=
  h.block (hg.block g h.1.lt (fun e => ((hr g e.symm).ne h.1 h1) rfl))
theorem Pts.of_own {w : World} {B B' n : Nat} {T : TypeId} {g c : Nat} {l : List Pt} (h : w.ownsRow B T 2 (.slice (some ⟨g, 0, none⟩) n c) n (l.flatMap (ptc .i64))) (hB : B' ≤ B) : Pts w B' g T l := by
  obtain ⟨h1, h2⟩ := own_isT h (g := g) rfl
  refine ⟨h1, fun j u hu => ?_, by omega⟩
  have := h.cells (g := g) rfl j u hu
  simpa [Addr.add_lit] using this
/-- marks the text's younger half -/
def Rowed : Prop := True
theorem StepRow.segs {w : World} {B : Nat} {T TP : TypeId} {v : Value} {S : List Sg} (h : StepRow w B T TP v S) : ∃ b cap, v = .slice (some ⟨b, 0, none⟩) S.length cap ∧ b < w.heap.size ∧ Segs w b S := by
  obtain ⟨cs, hc, hnil, hi⟩ := h
  obtain ⟨b, cap, hv, hA, _, hb, _⟩ := SegP.open_row hc hnil
  refine ⟨b, cap, hv, hb, fun i hl => ?_⟩
  obtain ⟨h1, g, c, h2, h3⟩ := hi i hl
  have a1 := hA _ _ h1
  have a2 := hA _ _ h2
  rw [Nat.zero_add] at a1 a2
  exact ⟨a1, g, c, a2, h3.2.1, h3.1.lt⟩
end Go.Proofs.Ytofidkkihkgagaa.SegR
