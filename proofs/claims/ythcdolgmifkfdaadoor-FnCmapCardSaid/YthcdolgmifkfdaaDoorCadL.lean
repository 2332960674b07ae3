/- What serves the contract of the making of a font: its box, the numbers' box, rows that grow beside them. -/
import Derived.Test.YthcdolgmifkfdaaDoorGlyO
import Derived.Test.YthcdolgmifkfdaaDoorMadN
import Derived.Laws.BitsAllLaws
import Derived.Laws.Tables
import Derived.Laws.Rows
import Derived.Test.YthcdolgmifkfdaaDoorTail
namespace Go.Proofs.YthcdolgmifkfdaaDoor.CadL
open Go.ChangeShapes Go.WideShapes Go.ChangeAt Go.RowKit
open Lst Mem RowG GlyM GlyN GlyO MadN
set_option linter.unusedSimpArgs false
set_option linter.unusedVariables false

/-- a font's cells -/
def mc (un : Int) (vG vA vB : Value) (fu : Int) (vP : Value) (fm : Int) (lo : Bool) (vK vN : Value) (ve : Int) (fi : Bool) (vT : Value) (wa : Int) : List Value :=
  [.int .i64 un, vG, vA, vB, .int .i64 fu, vP, .int .i64 fm, .bool lo, vK, vN, .int .i64 0, .int .i64 0, .int .i64 0, .int .i64 0, .int .i64 0, .int .i64 0, .int .i64 0,
    .int .i64 0, .int .i64 0, .int .i64 0, .int .i64 0, .int .i64 ve, .int .i64 0, .int .i64 0, .int .i64 0, .bool fi, vT, .int .i64 wa]
def mz : List Value := mc 0 (.slice none 0 0) (.slice none 0 0) (.slice none 0 0) 0 (.slice none 0 0) 0 false (.slice none 0 0) (.slice none 0 0) 0 false (.slice none 0 0) 0
/-- a letter and its glyph -/
abbrev Pr := Int × Int
def pc (p : Pr) : List Value := [.int .i64 p.1, .int .i64 p.2]
theorem pc_len (p : Pr) : (pc p).length = 2 := rfl
/-- a letter that a format takes -/
def KeyOk (fm x : Int) : Prop := (fm = 0 ∧ 0 ≤ x ∧ x < 127) ∨ (fm = 6 ∧ 200 ≤ x ∧ x < 290) ∨ (fm = 12 ∧ 0 ≤ x ∧ x ≤ 1048304 ∧ 16 ∣ x) ∨ (fm = 4 ∧ 0 ≤ x ∧ x < 65520)
def FmOk (fm : Int) : Prop := fm = 4 ∨ fm = 12 ∨ fm = 6 ∨ fm = 0
/-- letters that ascend, with their glyphs -/
def PsOk (fm : Int) (ps : List Pr) : Prop := FmOk fm ∧ ps.length ≤ 40 ∧ (∀ p ∈ ps, KeyOk fm p.1 ∧ (1 ≤ p.2 ∧ p.2 ≤ 9)) ∧ ps.Pairwise (fun p q => p.1 < q.1)
/-- the letters in the font's cells -/
def Pz (fm : Int) (ps : List Pr) (w0 : World) (cs : List Value) (w : World) : Prop := ∃ (PV : Value), cs[6]? = some (.int .i64 fm) ∧ cs[5]? = some PV ∧ w.ownsRow w0.heap.size 41 2 PV ps.length (ps.flatMap pc) ∧ PsOk fm ps
theorem Pz.own {fm : Int} {ps : List Pr} {w0 w w' : World} {cs : List Value} (h : Pz fm ps w0 cs w) (hs : ∀ g, IsT w g 41 → w'.heap[g]? = w.heap[g]?) : Pz fm ps w0 cs w' := by
  obtain ⟨PV, a, b, c, d⟩ := h
  exact ⟨PV, a, b, own_block c fun g hg => hs g (own_isT c hg).1, d⟩
theorem Pz.below {fm : Int} {ps : List Pr} {w0 w w' : World} {cs : List Value} (h : Pz fm ps w0 cs w) (hb : Below w.heap.size w w') : Pz fm ps w0 cs w' := h.own fun g hg => hb.block g hg.lt
theorem Pz.grown {fm : Int} {ps : List Pr} {w0 w w' : World} {cs : List Value} {r : Option Nat} {t : TypeId} (h : Pz fm ps w0 cs w) (hg : w.grownBy w' r) (hr : ∀ b, r = some b → IsT w b t) (h1 : t ≠ 41) : Pz fm ps w0 cs w' := h.own fun g hg' => hg.block g hg'.lt (fun e => ((hr g e.symm).ne hg' h1) rfl)
theorem Pz.set_ {fm : Int} {ps : List Pr} {w0 w : World} {cs : List Value} {mb i : Nat} {t : TypeId} {bs : List Value} {u : Value} (h : Pz fm ps w0 cs w) (hk : Blk mb t bs w) (h1 : t ≠ 41) : Pz fm ps w0 cs (w.setCell ⟨mb, i, none⟩ u) := h.own fun g hg => Below.heap_setCell _ _ _ _ (fun e => (hg.ne (T' := t) ⟨_, hk⟩ (fun e => h1 e.symm)) e)
theorem Pz.cells {fm : Int} {ps : List Pr} {w0 w : World} {cs cs' : List Value} (h : Pz fm ps w0 cs w) (h5 : cs'[5]? = cs[5]?) (h6 : cs'[6]? = cs[6]?) : Pz fm ps w0 cs' w := by
  obtain ⟨PV, a, b, c, d⟩ := h
  exact ⟨PV, h6.trans a, h5.trans b, c, d⟩
/-- the boxes that stay -/
def Kc (fm : Int) (ps : List Pr) (w0 : World) (mb : Nat) (cs : List Value) (A : Option Addr) (m cap : Nat) (w : World) : Prop :=
  Blk mb 36 cs w ∧ Blk w0.heap.size 47 [.slice A m cap] w ∧ Blk (w0.heap.size + 1) 36 mz w ∧ w0.heap.size + 2 ≤ mb ∧ Below w0.heap.size w0 w ∧ Pz fm ps w0 cs w
variable {fm : Int} {ps : List Pr} {w0 w w' : World} {mb : Nat} {cs : List Value} {A : Option Addr} {m cap : Nat}
theorem Kc.below (h : Kc fm ps w0 mb cs A m cap w) (hb : Below w.heap.size w w') : Kc fm ps w0 mb cs A m cap w' :=
  ⟨h.1.keep hb, h.2.1.keep hb, h.2.2.1.keep hb, h.2.2.2.1, h.2.2.2.2.1.trans (hb.mono h.2.2.2.2.1.size), h.2.2.2.2.2.below hb⟩
theorem Kc.grown {r : Option Nat} {t : TypeId} (h : Kc fm ps w0 mb cs A m cap w) (hg : w.grownBy w' r) (hr : ∀ b, r = some b → IsT w b t ∧ w0.heap.size ≤ b) (h1 : t ≠ 36) (h2 : t ≠ 47) (h7 : t ≠ 41 := by decide) : Kc fm ps w0 mb cs A m cap w' := by
  have ne : ∀ {b : Nat} {t' : TypeId} {cs : List Value}, t ≠ t' → Blk b t' cs w → r ≠ some b := fun hne hb e => (IsT.ne (hr _ e).1 ⟨_, hb⟩ hne) rfl
  exact ⟨blk_grown h.1 hg (ne h1 h.1), blk_grown h.2.1 hg (ne h2 h.2.1), blk_grown h.2.2.1 hg (ne h1 h.2.2.1), h.2.2.2.1, h.2.2.2.2.1.grown hg h.2.2.2.2.1.size (fun b hb => (hr b hb).2), h.2.2.2.2.2.grown hg (fun b hb => (hr b hb).1) h7⟩
theorem Kc.set_ (h : Kc fm ps w0 mb cs A m cap w) (i : Nat) (v : Value) (h5 : i ≠ 5 := by decide) (h6 : i ≠ 6 := by decide) : Kc fm ps w0 mb (cs.set i v) A m cap (w.setCell ⟨mb, i, none⟩ v) :=
  ⟨h.1.set_ i v, h.2.1.other (by have := h.2.2.2.1; omega), h.2.2.1.other (by have := h.2.2.2.1; omega), h.2.2.2.1, h.2.2.2.2.1.setCell (p := ⟨mb, i, none⟩) (by have := h.2.2.2.1; simp; omega) v, (h.2.2.2.2.2.set_ h.1 (by decide)).cells (List.getElem?_set_ne (fun e => h5 e)) (List.getElem?_set_ne (fun e => h6 e))⟩
theorem Kc.drew (h : Kc fm ps w0 mb cs A m cap w) : Kc fm ps w0 mb cs A m cap w.drew := h.below (Below.drew (Below.refl _ _))
theorem Kc.sz (h : Kc fm ps w0 mb cs A m cap w) : w0.heap.size + 2 < w.heap.size := by have := h.1.lt; have := h.2.2.2.1; omega
/-- a store into the font's box: glyphs stay -/
theorem Glys.set_ {v : Value} {Gs : List Gl} {i : Nat} {u : Value} {B : Nat} {t : TypeId} (h : Glys T w B v Gs) (hk : Blk mb t cs w) (h1 : t ≠ 53) (h2 : t ≠ 75) (h3 : t ≠ 73) (h4 : t ≠ 72) : Glys T (w.setCell ⟨mb, i, none⟩ u) B v Gs := by
  obtain ⟨xs, ho, hi⟩ := h
  refine ⟨xs, own_block ho (fun g hg => ?_), fun j hj => ?_⟩
  · have := (own_isT ho hg).1
    exact Below.heap_setCell _ _ _ _ (fun e => (this.ne (T' := t) ⟨_, hk⟩ (fun e => h1 e.symm)) e)
  · obtain ⟨a, b, x, y, z⟩ := hi j hj
    exact ⟨a, b, x, y, z.same (same_set hk h2 h3 h4 u)⟩
theorem Glys.grown {v : Value} {Gs : List Gl} {B : Nat} {r : Option Nat} {t : TypeId} (h : Glys T w B v Gs) (hg : w.grownBy w' r) (hr : ∀ b, r = some b → IsT w b t) (h1 : t ≠ 53) (h2 : t ≠ 75) (h3 : t ≠ 73) (h4 : t ≠ 72) : Glys T w' B v Gs := by
  obtain ⟨xs, ho, hi⟩ := h
  refine ⟨xs, own_block ho (fun g hg' => ?_), fun j hj => ?_⟩
  · have := (own_isT ho hg').1
    exact hg.block g this.lt (fun e => ((hr g e.symm).ne this h1) rfl)
  · obtain ⟨a, b, x, y, z⟩ := hi j hj
    exact ⟨a, b, x, y, z.same (Same.grown hg hr h2 h3 h4)⟩
/-- all made glyphs are sound -/
def GsOk (Gs : List Gl) : Prop := ∀ i, i < Gs.length → GlyOk (Gs.take i) (Gs.getD i ([], []))
theorem GsOk.nil_ : GsOk [] := fun i h => by simp at h
theorem GsOk.push {Gs : List Gl} {G : Gl} (h : GsOk Gs) (hG : GlyOk Gs G) : GsOk (Gs ++ [G]) := fun i hi => by
  rw [List.length_append, List.length_singleton] at hi
  by_cases hk : i < Gs.length
  · rw [List.take_append_of_le_length (by omega), List.getD_eq_getElem?_getD, List.getElem?_append_left hk, ← List.getD_eq_getElem?_getD]
    exact h i hk
  · have : i = Gs.length := by omega
    subst this
    simpa [List.getD_eq_getElem?_getD] using hG
theorem ginfo : (Tryd.prog.info? 53).map (fun i => (i.zero, i.size, i.bytes)) = some (some (.agg #[.slice none 0 0, .slice none 0 0]), 2, 48) := by kernel_rfl
theorem iinfo : (Tryd.prog.info? 3).map (fun i => (i.zero, i.size, i.bytes)) = some (some (.int .i64 0), 1, 8) := by kernel_rfl
theorem sinfo : (Tryd.prog.info? 9).map (fun i => (i.zero, i.size, i.bytes)) = some (some (.string ⟨#[]⟩), 1, 16) := by kernel_rfl
theorem kinfo : (Tryd.prog.info? 57).map (fun i => (i.zero, i.size, i.bytes)) = some (some (.agg #[.int .i64 0, .int .i64 0, .int .i64 0]), 3, 24) := by kernel_rfl
theorem ninfo : (Tryd.prog.info? 59).map (fun i => (i.zero, i.size, i.bytes)) = some (some (.agg #[.int .i64 0, .slice none 0 0, .bool false]), 3, 40) := by kernel_rfl
theorem gly_any (vc vr : Value) (G : Gl) {B : Nat} (h : GlyIn T w B vc vr G) : ∀ u ∈ [vc, vr], u.oneCell' = true := fun u hu => by
  simp at hu
  rcases hu with rfl | rfl
  · rcases h.1 with ⟨h, _⟩ | ⟨g, c, h, _⟩ <;> (rw [h]; rfl)
  · rcases h.2 with ⟨h, _⟩ | ⟨g, c, h, _⟩ <;> (rw [h]; rfl)
/-- one glyph more -/
theorem Glys.more {v v' vc vr : Value} {Gs : List Gl} {G : Gl} {B b0 : Nat} {xs : List Value} (ho : w.ownsRow B T.gly 2 v Gs.length xs)
    (hi : ∀ i, i < Gs.length → ∃ vc vr, xs[i * 2]? = some vc ∧ xs[i * 2 + 1]? = some vr ∧ GlyIn T w B vc vr (Gs.getD i ([], []))) (hG : GlyIn T w b0 vc vr G) (hB : B ≤ b0) (hg : w.grownBy w' v.ownBlock)
    (ho' : w'.ownsRow B T.gly 2 v' (Gs.length + 1) (xs ++ [vc, vr])) : Glys T w' B v' (Gs ++ [G]) :=
  Glys.push ho hi (hG.mono hB) (Same.grown hg (fun b hb => (own_isT ho hb).1) (by decide) (by decide) (by decide)) ho'
theorem and1 (E : Int) (h0 : 0 ≤ E) (h1 : E ≤ 4294967295) : bits BinOp.and IntKind.u32 E 1 = E % 2 := by
  have h := u32_and_nat E.toNat 1 (by omega) (by omega)
  rw [Nat.and_one_is_mod, Int.toNat_of_nonneg h0] at h
  have h2 : ((E.toNat % 2 : Nat) : Int) = E % 2 := by omega
  exact h.trans h2
theorem setRow_other {g i : Nat} {c : Array Value} (h : g ≠ i) : (w.setRow g c).heap[i]? = w.heap[i]? := by
  simp only [World.setRow, Array.getElem?_modify]
  rw [if_neg h]
theorem blk_row {b : Nat} {t : TypeId} {cs : List Value} (h : Blk b t cs w) (c : Array Value) : Blk b t c.toList (w.setRow b c) := by
  have := setRow_heap w b _ c t (0, 0) h
  unfold Blk
  rw [this]
theorem blk_row_other {b g : Nat} {t : TypeId} {cs : List Value} (h : Blk b t cs w) (c : Array Value) (hne : b ≠ g) : Blk b t cs (w.setRow g c) := by
  unfold Blk
  rw [setRow_other (fun e => hne e.symm)]
  exact h
theorem bel_row {B g : Nat} {c : Array Value} (h : Below B w w') (hg : B ≤ g) : Below B w (w'.setRow g c) := by
  obtain ⟨a, b, c', d, e⟩ := h
  exact ⟨a, b, c', by simpa [World.setRow] using d, fun i hi => (setRow_other (by omega)).trans (e i hi)⟩
theorem step_store_row {P : Program} {ops : Array Oper} {o : Oper} {a : Act} {w : World} {K : Act → World → Prop} {Q : Exit → Act → World → Prop} {E : Prop} (hgd : o.guard = none) (ty : TypeId) (x y : Operand) (ho : o.op = .store ty x y)
    (g : Nat) (cells : Array Value) (hx : a.eval x = .pointer (some ⟨g, 0, none⟩)) (hy : a.eval y = .agg cells) (t : TypeId) (old : List Value) (hg : Blk g t old w) (hi : (P.info? ty).map (·.size) = some cells.size)
    (hold : old.length = cells.size) (h1 : cells.all (·.oneCell') = true) (h : K (a.put o.dst undef) (w.setRow g cells)) : if Region.wanted o (yielded ops a.tmps) = true then Oper.wp P o a w K Q else E := by
  have hw : Region.wanted o (yielded ops a.tmps) = true := by simp [Region.wanted, hgd]
  rw [if_pos hw]
  exact wp_store_row ty x y ho g cells hx hy t old.toArray hg hi (by simpa using hold) h1 h
theorem step_run {P : Program} {ops : Array Oper} {o : Oper} {a : Act} {w : World} {K : Act → World → Prop} {Q : Exit → Act → World → Prop} {E : Prop} (hgd : o.guard = none) (v : Value) (w' : World)
    (hrun : (execOp a.eval o).run P w = .ok (.value v) w') (h : K (a.put o.dst v) w') : if Region.wanted o (yielded ops a.tmps) = true then Oper.wp P o a w K Q else E := by
  have hw : Region.wanted o (yielded ops a.tmps) = true := by simp [Region.wanted, hgd]
  rw [if_pos hw]
  unfold Oper.wp
  rw [hrun, Oper.upon_value]
  exact h
section
variable {P : Program} {ops : Array Oper} {Q : Exit → Act → World → Prop} {md : Region.Mode} {S S' : World → Prop} {tl : List Nat}
/-- the condition may grow on the way -/
theorem strong (hS : ∀ w, S' w → S w) : ∀ (fuel : Nat) (listed : Array Bool) (a : Act) (w : World), Tail.wpAnyL P md ops Q S' tl fuel listed a w → Tail.wpAnyL P md ops Q S tl fuel listed a w
  | 0, _, _, _, h => h
  | fuel + 1, _, _, _, h => ⟨h.1, fun i hi => wpOp_mono (fun a' w' h' => ⟨fun e => hS _ (h'.1 e), strong hS fuel _ a' w' h'.2⟩) (h.2 i hi)⟩
end
theorem own_setk {B n sz i : Nat} {e t : TypeId} {v u : Value} {xs : List Value} (h : w.ownsRow B e sz v n xs) (hk : Blk mb t cs w) (hne : e ≠ t) : (w.setCell ⟨mb, i, none⟩ u).ownsRow B e sz v n xs :=
  own_block h (fun _ hg => Below.heap_setCell _ _ _ _ (fun e' => ((own_isT h hg).1.ne (T' := t) ⟨_, hk⟩ hne) e'))
/-- two rows of integers beside each other, and one of texts -/
def Rows3 (B : Nat) (w : World) (vA vB vT : Value) (n m k : Nat) : Prop :=
  ∃ xa xb xt : List Value, w.ownsRow B 3 1 vA n xa ∧ w.ownsRow B 3 1 vB m xb ∧ w.ownsRow B 9 1 vT k xt ∧ (vA.ownBlock = none ∨ vA.ownBlock ≠ vB.ownBlock)
theorem Rows3.nil_ (B : Nat) (w : World) : Rows3 B w (.slice none 0 0) (.slice none 0 0) (.slice none 0 0) 0 0 0 := ⟨[], [], [], World.ownsRow_nil _ _ _ _, World.ownsRow_nil _ _ _ _, World.ownsRow_nil _ _ _ _, .inl rfl⟩
theorem Rows3.below {B : Nat} {vA vB vT : Value} {n m k : Nat} (h : Rows3 B w vA vB vT n m k) (hb : Below w.heap.size w w') : Rows3 B w' vA vB vT n m k := by
  obtain ⟨xa, xb, xt, a, b, c, d⟩ := h
  exact ⟨xa, xb, xt, own_keep a hb, own_keep b hb, own_keep c hb, d⟩
theorem Rows3.set_ {B n m k i : Nat} {vA vB vT u : Value} (h : Rows3 B w vA vB vT n m k) (hk : Blk mb 36 cs w) : Rows3 B (w.setCell ⟨mb, i, none⟩ u) vA vB vT n m k := by
  obtain ⟨xa, xb, xt, a, b, c, d⟩ := h
  exact ⟨xa, xb, xt, own_setk a hk (by decide), own_setk b hk (by decide), own_setk c hk (by decide), d⟩
theorem ne_flip {vA vB : Value} (h : vA.ownBlock = none ∨ vA.ownBlock ≠ vB.ownBlock) : vB.ownBlock = none ∨ vB.ownBlock ≠ vA.ownBlock := by
  rcases h with h | h
  · cases hb : vB.ownBlock with
    | none => exact .inl rfl
    | some g => exact .inr (by rw [h]; simp)
  · exact .inr (fun e => h e.symm)
theorem ne_new {B n sz : Nat} {e : TypeId} {vA vA' vB : Value} {xb : List Value} (hb : w.ownsRow B e sz vB n xb) (h : vA.ownBlock = none ∨ vA.ownBlock ≠ vB.ownBlock) (hat : vA'.ownBlock = vA.ownBlock ∨ vA'.ownBlock = some w.heap.size) : vA'.ownBlock = none ∨ vA'.ownBlock ≠ vB.ownBlock := by
  rcases hat with e | e
  · rw [e]; exact h
  · refine .inr (fun e2 => ?_)
    rw [e] at e2
    have := own_lt hb e2.symm
    omega
theorem rowA {B n m k : Nat} {vA vA' vB vT : Value} {xa xb xt ys : List Value} (a : w.ownsRow B 3 1 vA n xa) (b : w.ownsRow B 3 1 vB m xb) (c : w.ownsRow B 9 1 vT k xt) (d : vA.ownBlock = none ∨ vA.ownBlock ≠ vB.ownBlock)
    (ho : w'.ownsRow B 3 1 vA' (n + 1) ys) (hg : w.grownBy w' vA.ownBlock) (hat : vA'.ownBlock = vA.ownBlock ∨ vA'.ownBlock = some w.heap.size) : Rows3 B w' vA' vB vT (n + 1) m k :=
  ⟨ys, xb, xt, ho, b.kept hg (ne_flip d), c.kept hg (own_far c a (by decide)), ne_new b d hat⟩
theorem rowB {B n m k : Nat} {vA vB vB' vT : Value} {xa xb xt ys : List Value} (a : w.ownsRow B 3 1 vA n xa) (b : w.ownsRow B 3 1 vB m xb) (c : w.ownsRow B 9 1 vT k xt) (d : vA.ownBlock = none ∨ vA.ownBlock ≠ vB.ownBlock)
    (ho : w'.ownsRow B 3 1 vB' (m + 1) ys) (hg : w.grownBy w' vB.ownBlock) (hat : vB'.ownBlock = vB.ownBlock ∨ vB'.ownBlock = some w.heap.size) : Rows3 B w' vA vB' vT n (m + 1) k :=
  ⟨xa, ys, xt, a.kept hg d, ho, c.kept hg (own_far c b (by decide)), ne_flip (ne_new a (ne_flip d) hat)⟩
theorem rowT {B n m k : Nat} {vA vB vT vT' : Value} {xa xb xt ys : List Value} (a : w.ownsRow B 3 1 vA n xa) (b : w.ownsRow B 3 1 vB m xb) (c : w.ownsRow B 9 1 vT k xt) (d : vA.ownBlock = none ∨ vA.ownBlock ≠ vB.ownBlock)
    (ho : w'.ownsRow B 9 1 vT' (k + 1) ys) (hg : w.grownBy w' vT.ownBlock) : Rows3 B w' vA vB vT' n m (k + 1) :=
  ⟨xa, xb, ys, a.kept hg (own_far a c (by decide)), b.kept hg (own_far b c (by decide)), ho, d⟩
theorem Pz.row {fm : Int} {ps : List Pr} {w0 w : World} {b : Nat} {cs bs : List Value} {c : Array Value} {t : TypeId} (h : Pz fm ps w0 cs w) (hk : Blk b t bs w) (h1 : t ≠ 41) : Pz fm ps w0 cs (w.setRow b c) := h.own fun g hg => by
  have hne : g ≠ b := fun e => by subst e; exact (hg.ne (T' := t) ⟨_, hk⟩ (fun e => h1 e.symm)) rfl
  exact setRow_other (fun e => hne e.symm)
end Go.Proofs.YthcdolgmifkfdaaDoor.CadL
