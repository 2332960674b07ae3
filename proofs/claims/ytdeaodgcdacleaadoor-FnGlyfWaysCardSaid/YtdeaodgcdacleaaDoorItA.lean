/- What a glyph's bytes say to a reader that takes dot by dot. -/
import Derived.Test.YtdeaodgcdacleaaDoorDatE
namespace Go.Proofs.YtdeaodgcdacleaaDoor.ItA
open Go.ChangeShapes Go.WideShapes Go.ChangeAt Go.RowKit
open Lst Mem SpecB GlyM IdxB DatE
/-- dots behind a last one, as flags, x's and y's -/
inductive Dec : Dot → List Int → List Int → List Int → List Dot → Prop
  | nil (l : Dot) : Dec l [] [] [] []
  | cons {l d : Dot} {f : Int} {fs bx xs by' ys : List Int} {ds : List Dot} : Xd f bx (d.1 - l.1) → Yd f by' (d.2.1 - l.2.1) → bt f 1 = d.2.2 → YF f → Dec d fs xs ys ds → Dec l (f :: fs) (bx ++ xs) (by' ++ ys) (d :: ds)
theorem last_cons (l d : Dot) (ds : List Dot) : (d :: ds).getLastD l = ds.getLastD d := by cases ds <;> simp [List.getLastD]
theorem Dec.snoc {l d : Dot} {f : Int} {fs bx xs by' ys : List Int} {ds : List Dot} (h : Dec l fs xs ys ds) : Xd f bx (d.1 - (ds.getLastD l).1) → Yd f by' (d.2.1 - (ds.getLastD l).2.1) → bt f 1 = d.2.2 → YF f → Dec l (fs ++ [f]) (xs ++ bx) (ys ++ by') (ds ++ [d]) := by
  induction h with
  | nil l => intro h1 h2 h3 h4; simpa using Dec.cons h1 h2 h3 h4 (Dec.nil d)
  | cons a1 a2 a3 a4 _ ih =>
    intro h1 h2 h3 h4
    rw [last_cons] at h1 h2
    rw [List.append_assoc, List.append_assoc]
    exact Dec.cons a1 a2 a3 a4 (ih h1 h2 h3 h4)
theorem enc_dec {ds : List Dot} {fs xs ys : List Int} (h : Enc ds fs xs ys) : Dec (0, 0, false) fs xs ys ds := by
  induction h with
  | nil => exact .nil _
  | snoc _ h1 h2 h3 h4 ih => exact ih.snoc h1 h2 h3 h4
/-- from place i on there are these bytes -/
def Sub (bs : List Int) (i : Nat) (xs : List Int) : Prop := i + xs.length ≤ bs.length ∧ ∀ j, j < xs.length → bs.getD (i + j) 0 = xs.getD j 0
theorem Sub.left {bs xs ys : List Int} {i : Nat} (h : Sub bs i (xs ++ ys)) : Sub bs i xs := by
  refine ⟨by have := h.1; rw [List.length_append] at this; omega, fun j hj => ?_⟩
  rw [h.2 j (by rw [List.length_append]; omega), List.getD_eq_getElem?_getD, List.getD_eq_getElem?_getD, List.getElem?_append_left hj]
theorem Sub.right {bs xs ys : List Int} {i : Nat} (h : Sub bs i (xs ++ ys)) : Sub bs (i + xs.length) ys := by
  refine ⟨by have := h.1; rw [List.length_append] at this; omega, fun j hj => ?_⟩
  rw [Nat.add_assoc, h.2 (xs.length + j) (by rw [List.length_append]; omega), List.getD_eq_getElem?_getD, List.getD_eq_getElem?_getD, List.getElem?_append_right (by omega), Nat.add_sub_cancel_left]
theorem sub_app (zs bs cs : List Int) : Sub (zs ++ bs ++ cs) zs.length bs := by
  refine ⟨by simp, fun j hj => ?_⟩
  rw [List.getD_eq_getElem?_getD, List.getD_eq_getElem?_getD, List.append_assoc, List.getElem?_append_right (by omega), Nat.add_sub_cancel_left, List.getElem?_append_left hj]
/-- two flags say the same of a dot -/
def Alike (f g : Int) : Prop := bt f 1 = bt g 1 ∧ bt f 2 = bt g 2 ∧ bt f 16 = bt g 16 ∧ bt f 4 = bt g 4 ∧ bt f 32 = bt g 32
theorem Alike.rfl' (f : Int) : Alike f f := ⟨rfl, rfl, rfl, rfl, rfl⟩
theorem Alike.x {f g d : Int} {bx : List Int} (h : Alike f g) (hx : Xd g bx d) : Xd f bx d := by unfold Xd at hx ⊢; rw [h.2.1, h.2.2.1]; exact hx
theorem Alike.y {f g d : Int} {bx : List Int} (h : Alike f g) (hx : Yd g bx d) : Yd f bx d := by unfold Yd at hx ⊢; rw [h.2.2.2.1, h.2.2.2.2]; exact hx
/-- where a reader stands: its flag, how often that still counts, the places of the next flag, x and y; the last dot, the dots to come -/
def Pos (bs : List Int) (fl : Int) (rep p xi yi : Nat) (l : Dot) (ds : List Dot) : Prop :=
  ∃ (g : Int) (fs xs ys : List Int) (q : Nat), Dec l (List.replicate rep g ++ fs) xs ys ds ∧ (0 < rep → Alike fl g) ∧ Rf bs p fs q ∧ Sub bs xi xs ∧ Sub bs yi ys
/-- the flag of the next dot -/
def Fetch (bs : List Int) (fl : Int) (rep p : Nat) (fl' : Int) (rep' p' : Nat) : Prop :=
  (0 < rep ∧ fl' = fl ∧ rep = rep' + 1 ∧ p' = p) ∨ (rep = 0 ∧ p < bs.length ∧ bs.getD p 0 = fl' ∧ bt fl' 8 = false ∧ rep' = 0 ∧ p' = p + 1) ∨
    (rep = 0 ∧ p + 1 < bs.length ∧ bs.getD p 0 = fl' ∧ bt fl' 8 = true ∧ bs.getD (p + 1) 0 = (rep' : Int) ∧ p' = p + 2)
theorem dec_inv {l d : Dot} {f : Int} {fs xs ys : List Int} {ds : List Dot} (h : Dec l (f :: fs) xs ys (d :: ds)) : ∃ bx xs' by' ys', xs = bx ++ xs' ∧ ys = by' ++ ys' ∧ Xd f bx (d.1 - l.1) ∧ Yd f by' (d.2.1 - l.2.1) ∧ bt f 1 = d.2.2 ∧ YF f ∧ Dec d fs xs' ys' ds := by
  cases h with
  | cons a1 a2 a3 a4 a5 => exact ⟨_, _, _, _, rfl, rfl, a1, a2, a3, a4, a5⟩
theorem Pos.step {bs : List Int} {fl : Int} {rep p xi yi : Nat} {l d : Dot} {ds : List Dot} (h : Pos bs fl rep p xi yi l (d :: ds)) :
    ∃ (fl' : Int) (rep' p' : Nat) (bx by' : List Int), Fetch bs fl rep p fl' rep' p' ∧ Xd fl' bx (d.1 - l.1) ∧ Yd fl' by' (d.2.1 - l.2.1) ∧ bt fl' 1 = d.2.2 ∧ Sub bs xi bx ∧ Sub bs yi by' ∧ Pos bs fl' rep' p' (xi + bx.length) (yi + by'.length) d ds := by
  obtain ⟨g, fs, xs, ys, q, hd, ha, hr, hx, hy⟩ := h
  match rep, hd, ha with
  | r + 1, hd, ha =>
    rw [List.replicate_succ, List.cons_append] at hd
    obtain ⟨bx, xs', by', ys', rfl, rfl, a1, a2, a3, _, a5⟩ := dec_inv hd
    have hl := ha (by omega)
    exact ⟨fl, r, p, bx, by', .inl ⟨by omega, rfl, rfl, rfl⟩, hl.x a1, hl.y a2, hl.1.trans a3, hx.left, hy.left, g, fs, xs', ys', q, a5, fun _ => hl, hr, hx.right, hy.right⟩
  | 0, hd, _ =>
    rw [List.replicate_zero, List.nil_append] at hd
    cases hr with
    | done => cases hd
    | one h1 h2 h3 h4 =>
      obtain ⟨bx, xs', by', ys', rfl, rfl, a1, a2, a3, a4, a5⟩ := dec_inv hd
      exact ⟨_, 0, p + 1, bx, by', .inr (.inl ⟨rfl, h1, h2, h3.2.2, rfl, rfl⟩), a1, a2, a3, hx.left, hy.left, g, _, xs', ys', q, a5, fun h => absurd h (by omega), h4, hx.right, hy.right⟩
    | many h1 h2 h3 h4 h5 =>
      rename_i m fs' f _
      rw [List.replicate_succ, List.cons_append] at hd
      obtain ⟨bx, xs', by', ys', rfl, rfl, a1, a2, a3, a4, a5⟩ := dec_inv hd
      have ho := or8_8 h3
      have hl : Alike (or8 f 8) f := ⟨ho.2.2.1, ho.2.2.2.1, ho.2.2.2.2.1, ho.2.2.2.2.2.1, ho.2.2.2.2.2.2⟩
      exact ⟨or8 f 8, m, p + 2, bx, by', .inr (.inr ⟨rfl, h1, h2, ho.2.1, h4, rfl⟩), hl.x a1, hl.y a2, hl.1.trans a3, hx.left, hy.left, f, fs', xs', ys', q, a5, fun _ => hl, h5, hx.right, hy.right⟩
end Go.Proofs.YtdeaodgcdacleaaDoor.ItA
