/- Rows and blocks of the call's own, of elements of whatever size: what they read as, what stays where another grows, append in a region that draws its order. No function of the program in sight. -/
import Derived.Test.YthcdolgmifkfdaaDoorMem
import Derived.Test.YthcdolgmifkfdaaDoorNums
import Derived.Laws.Tables
import Derived.WalkKit
import Derived.OpenShut
import Derived.Deep.Quiet
import Derived.Maps.AppendAt
namespace Go.Proofs.YthcdolgmifkfdaaDoor.RowG
open Go.ChangeShapes Go.WideShapes Go.RowKit
open Lst Mem

theorem flat_at {α β : Type} (f : α → List β) (k : Nat) (hf : ∀ x, (f x).length = k) (d : α) : ∀ (l : List α) (i r : Nat), i < l.length → r < k → (l.flatMap f)[k * i + r]? = (f (l.getD i d))[r]?
  | [], i, r, hi, _ => absurd hi (by simp)
  | x :: l, 0, r, _, hr => by
    rw [List.flatMap_cons, Nat.mul_zero, Nat.zero_add, List.getElem?_append_left (by rw [hf]; exact hr)]
    rfl
  | x :: l, i + 1, r, hi, hr => by
    have ih := flat_at f k hf d l i r (by simpa using hi) hr
    rw [List.flatMap_cons, show k * (i + 1) + r = k + (k * i + r) by rw [Nat.mul_succ]; omega, List.getElem?_append_right (by rw [hf]; omega), hf, Nat.add_sub_cancel_left, ih]
    rfl
theorem flat_len {α β : Type} (f : α → List β) (k : Nat) (hf : ∀ x, (f x).length = k) : ∀ l : List α, (l.flatMap f).length = k * l.length
  | [] => by simp
  | x :: l => by rw [List.flatMap_cons, List.length_append, hf, flat_len f k hf l, List.length_cons, Nat.mul_succ]; omega
theorem at_flat {α : Type} {w : World} {b : Nat} {f : α → List Value} {k : Nat} (hf : ∀ x, (f x).length = k) (d : α) {l : List α} (h : At w b 0 (l.flatMap f)) {i r : Nat} (hi : i < l.length) (hr : r < k) {u : Value} (hu : (f (l.getD i d))[r]? = some u) : w.cell? ⟨b, k * i + r, none⟩ = some u := by
  have := h (k * i + r) u (by rw [flat_at f k hf d l i r hi hr]; exact hu)
  rwa [Nat.zero_add] at this

theorem getD_mem {α : Type} (l : List α) (k : Nat) (d : α) (h : k < l.length) : l.getD k d ∈ l := by
  rw [List.getD_eq_getElem?_getD, List.getElem?_eq_getElem h]
  exact List.getElem_mem _

theorem bel_draws {B : Nat} {w w' : World} (h : Below B w w') (n : Nat) : Below B w (w'.drewN n) := h.trans ⟨rfl, rfl, rfl, Nat.le_refl _, fun _ _ => rfl⟩
/-- block b holds the cells cs, none of them frozen -/
def Blk (b : Nat) (t : TypeId) (cs : List Value) (w : World) : Prop := w.heap[b]? = some (.cells cs.toArray t (0, 0))
theorem Blk.new_ (w : World) (cs : Array Value) (t : TypeId) : Blk w.heap.size t cs.toList (w.alloc (.cells cs t)) := by
  unfold Blk
  rw [heap_alloc_new]
theorem Blk.lt {b : Nat} {t : TypeId} {cs : List Value} {w : World} (h : Blk b t cs w) : b < w.heap.size := (Array.getElem?_eq_some_iff.1 h).1
theorem Blk.keep {b : Nat} {t : TypeId} {cs : List Value} {w w' : World} (h : Blk b t cs w) (hb : Below w.heap.size w w') : Blk b t cs w' := (hb.block b h.lt).trans h
theorem Blk.cell {b : Nat} {t : TypeId} {cs : List Value} {w : World} (h : Blk b t cs w) {i : Nat} {u : Value} (hu : cs[i]? = some u) : w.cell? ⟨b, i, none⟩ = some u := by
  rw [cell_of_row w b i cs.toArray t (0, 0) h]
  simpa using hu
theorem Blk.frozen {b : Nat} {t : TypeId} {cs : List Value} {w : World} (h : Blk b t cs w) (i : Nat) : w.frozen? ⟨b, i, none⟩ = false := by simp [World.frozen?, show w.heap[b]? = _ from h]
theorem Blk.set_ {b : Nat} {t : TypeId} {cs : List Value} {w : World} (h : Blk b t cs w) (i : Nat) (v : Value) : Blk b t (cs.set i v) (w.setCell ⟨b, i, none⟩ v) := by
  simp [Blk, World.setCell, Array.getElem?_modify, show w.heap[b]? = _ from h]
theorem Blk.other {b c i : Nat} {t : TypeId} {cs : List Value} {w : World} {v : Value} (h : Blk b t cs w) (hc : b ≠ c) : Blk b t cs (w.setCell ⟨c, i, none⟩ v) := by
  unfold Blk
  rw [Below.heap_setCell _ _ _ _ (by exact hc)]
  exact h
theorem open_row {w : World} {B n sz : Nat} {e : TypeId} {v : Value} {xs : List Value} (ho : w.ownsRow B e sz v n xs) (hn : v ≠ .slice none 0 0) :
    ∃ g cap, v = .slice (some ⟨g, 0, none⟩) n cap ∧ At w g 0 xs ∧ n ≤ cap ∧ g < w.heap.size ∧ B ≤ g := by
  have ho' := ho
  rcases ho.2 with ⟨hv, _⟩ | ⟨g, cap, cur, rfl, hg, hh, hc, _⟩
  · exact absurd hv hn
  · refine ⟨g, cap, rfl, fun j u hu => ?_, hc, (Array.getElem?_eq_some_iff.1 hh).1, hg⟩
    have := ho'.cells (g := g) rfl j u hu
    simpa [Addr.add_lit] using this
/-- append onto a row of the call's own as one step of a region that draws: elements of whatever size -/
theorem step_app2 {P : Program} {ops : Array Oper} {o : Oper} {a : Act} {w : World} {K : Act → World → Prop} {Q : Exit → Act → World → Prop} {E : Prop} (hgd : o.guard = none) (s x : Operand) (t : TypeId)
    (ho : o.op = .call { callee := .builtin .append, args := #[s, x], argTypes := #[t, t] })
    (base : Nat) (e : TypeId) (i : TypeInfo) (z : Value) (size bytes : Nat) (ht : P.underlying t = some (.slice e)) (hi : P.info? e = some i) (hz : i.zero = some z)
    (hsize : i.size = size) (hby : i.bytes = bytes) (hzs : z.cells.size = size) (hsz : 0 < size)
    (v : Value) (n : Nat) (xs : List Value) (hs : a.eval s = v) (hown : w.ownsRow base e size v n xs)
    (ad : Addr) (m c : Nat) (news : List Value) (hx : a.eval x = .slice (some ad) m c) (hl : news.length = m * size) (hr : ∀ j u, news[j]? = some u → w.cell? (ad.add j) = some u) (h1 : ∀ u ∈ news, u.oneCell' = true)
    (h63 : n + m ≤ maxLen) (hbytes : (n + m) * bytes ≤ 140737488355328) (hbase : base ≤ w.heap.size)
    (h : ∀ v' w', w'.ownsRow base e size v' (n + m) (xs ++ news) → w.grownBy w' v.ownBlock → (v' = .slice none 0 0 ↔ v = .slice none 0 0 ∧ m = 0) → (v'.ownBlock = v.ownBlock ∨ v'.ownBlock = some w.heap.size) → K (a.put o.dst v') w') :
    if Region.wanted o (yielded ops a.tmps) = true then Oper.wp P o a w K Q else E := by
  have hw : Region.wanted o (yielded ops a.tmps) = true := by simp [Region.wanted, hgd]
  rw [if_pos hw]
  obtain ⟨v', w', hrun, h2, h3, h4, h5⟩ := run_append_own_at (P := P) w base t o.type e i z size bytes ht hi hz hsize hby hzs hsz v n xs hown ad m c news hl hr h1 h63 hbytes hbase
  unfold Oper.wp execOp
  simp only [ho, resolve, invoke, builtin, Sem.run_bind, Sem.run_pure, Result.andThen_ok, List.map_toArray, List.map_cons, List.map_nil, hs, hx, hrun]
  exact h v' w' h2 h3 h4 h5

theorem bel_alloc' (w : World) (o : Obj) : Below w.heap.size w (w.alloc o) := (Below.refl _ _).alloc (Nat.le_refl _) _
/-- block g is a row of cells of type T, none of them frozen -/
def IsT (w : World) (g : Nat) (T : TypeId) : Prop := ∃ cur, w.heap[g]? = some (.cells cur T (0, 0))
theorem IsT.lt {w : World} {g : Nat} {T : TypeId} (h : IsT w g T) : g < w.heap.size := by obtain ⟨_, h⟩ := h; exact (Array.getElem?_eq_some_iff.1 h).1
theorem own_isT {w : World} {B n sz : Nat} {e : TypeId} {v : Value} {xs : List Value} (h : w.ownsRow B e sz v n xs) {g : Nat} (hg : v.ownBlock = some g) : IsT w g e ∧ B ≤ g := by
  rcases h.2 with ⟨rfl, _⟩ | ⟨g', cap, cur, rfl, hb, hh, _⟩
  · cases hg
  · simp only [Value.ownBlock, Option.some.injEq] at hg
    subst hg
    exact ⟨⟨_, hh⟩, hb⟩
theorem IsT.ne {w : World} {g g' : Nat} {T T' : TypeId} (h : IsT w g T) (h' : IsT w g' T') (hne : T ≠ T') : g ≠ g' := by
  obtain ⟨c, h⟩ := h
  obtain ⟨c', h'⟩ := h'
  intro e
  subst e
  rw [h] at h'
  simp at h'
  exact hne h'.2
theorem blk_grown {b : Nat} {t : TypeId} {cs : List Value} {w w' : World} {r : Option Nat} (h : Blk b t cs w) (hg : w.grownBy w' r) (hne : r ≠ some b) : Blk b t cs w' := by
  unfold Blk
  rw [hg.block b h.lt (fun e => hne e.symm)]
  exact h
theorem own_lt {w : World} {B n sz : Nat} {e : TypeId} {v : Value} {xs : List Value} (h : w.ownsRow B e sz v n xs) {g : Nat} (hg : v.ownBlock = some g) : g < w.heap.size := (own_isT h hg).1.lt
theorem own_ne {w : World} {B n sz : Nat} {e : TypeId} {v : Value} {xs : List Value} (h : w.ownsRow B e sz v n xs) {g : Nat} (hg : g < B ∨ w.heap.size ≤ g) : v.ownBlock ≠ some g := fun he => by
  have h1 := own_lt h he
  have h2 := (own_isT h he).2
  omega
theorem own_far {w : World} {B B' n n' sz sz' : Nat} {e e' : TypeId} {v v' : Value} {xs xs' : List Value} (h : w.ownsRow B e sz v n xs) (h' : w.ownsRow B' e' sz' v' n' xs') (hne : e ≠ e') : v.ownBlock = none ∨ v.ownBlock ≠ v'.ownBlock := by
  cases he : v.ownBlock with
  | none => exact .inl rfl
  | some g =>
    refine .inr fun h2 => ?_
    have h1 := (own_isT h he).1
    have h3 := (own_isT h' h2.symm).1
    exact (h1.ne h3 hne) rfl
theorem own_set {w : World} {B n sz : Nat} {e : TypeId} {v : Value} {xs : List Value} (h : w.ownsRow B e sz v n xs) {a : Addr} (ha : a.block < B) (u : Value) : (w.setCell a u).ownsRow B e sz v n xs := by
  refine ⟨h.1, ?_⟩
  rcases h.2 with hn | ⟨g, cap, cur, hv, hg, hh, rest⟩
  · exact .inl hn
  · exact .inr ⟨g, cap, cur, hv, hg, by rw [Below.heap_setCell _ _ _ _ (by omega)]; exact hh, rest⟩
theorem two_cells {b : Nat} {t : TypeId} {x y : Value} {w : World} (h : Blk b t [x, y] w) : ∀ q u, [x, y][q]? = some u → w.cell? ((⟨b, 0, none⟩ : Addr).add q) = some u := fun q u hq => by
  rw [Addr.add_lit, Nat.zero_add]
  exact h.cell hq
theorem two_ints (px py : Int) : ∀ u ∈ [Value.int .i64 px, .int .i64 py], u.oneCell' = true := fun u hu => by simp at hu; rcases hu with rfl | rfl <;> rfl
theorem two_any (x : Int) (A : Option Addr) (n c : Nat) : ∀ u ∈ [Value.int .i64 x, .slice A n c], u.oneCell' = true := fun u hu => by simp at hu; rcases hu with rfl | rfl <;> rfl
theorem own_base' {w : World} {B B' n sz : Nat} {e : TypeId} {v : Value} {xs : List Value} (h : w.ownsRow B e sz v n xs) (hB : B' ≤ B) : w.ownsRow B' e sz v n xs := by
  refine ⟨h.1, ?_⟩
  rcases h.2 with hn | ⟨g, cap, cur, hv, hg, rest⟩
  · exact .inl hn
  · exact .inr ⟨g, cap, cur, hv, by omega, rest⟩
theorem at_block {w w' : World} {g off : Nat} {xs : List Value} (h : At w g off xs) (hb : w'.heap[g]? = w.heap[g]?) : At w' g off xs := fun j u hu => by
  have := h j u hu
  rw [World.cell?_of_block (a := ⟨g, off + j, none⟩) hb]
  exact this
/-- a row of cells at the front of block g, of type T, g not below B -/
def Row (w : World) (B g : Nat) (T : TypeId) (xs : List Value) : Prop := IsT w g T ∧ At w g 0 xs ∧ B ≤ g
theorem Row.block {w w' : World} {B g : Nat} {T : TypeId} {xs : List Value} (h : Row w B g T xs) (hb : w'.heap[g]? = w.heap[g]?) : Row w' B g T xs := by
  obtain ⟨⟨c, hc⟩, ha, hB⟩ := h
  exact ⟨⟨c, hb.trans hc⟩, at_block ha hb, hB⟩
theorem Row.of_own {w : World} {B B' n sz : Nat} {T : TypeId} {g c : Nat} {xs : List Value} (h : w.ownsRow B T sz (.slice (some ⟨g, 0, none⟩) n c) n xs) (hB : B' ≤ B) : Row w B' g T xs := by
  obtain ⟨h1, h2⟩ := own_isT h (g := g) rfl
  refine ⟨h1, fun j u hu => ?_, by omega⟩
  have := h.cells (g := g) rfl j u hu
  simpa [Addr.add_lit] using this
end Go.Proofs.YthcdolgmifkfdaaDoor.RowG
