/- Parts as bytes; a buffer's box with a part laid on its stack. No function of the program in sight. -/
import Derived.Test.YtdeaodgcdacleaaDoorLdB
namespace Go.Proofs.YtdeaodgcdacleaaDoor.RefE
open Go.ChangeShapes Go.WideShapes Go.ChangeAt Go.RowKit
open Lst Mem RowG SpecB GlyM DatE ItC LdB
set_option linter.unusedSimpArgs false
set_option linter.unusedVariables false
def flg (more sm : Bool) (md : Nat) : Int := 2 + (if more then 32 else 0) + (if sm then 0 else 1) + (match md with | 0 => 0 | 1 => 8 | 2 => 64 | _ => 128)
def dxy (sm : Bool) (r : Ref) : List Int := if sm then [lo r.2.1, lo r.2.2.1] else words [r.2.1, r.2.2.1]
def scl (md : Nat) (r : Ref) : List Int :=
  match md with
  | 0 => []
  | 1 => words [r.2.2.2.1 * 4096]
  | 2 => words [r.2.2.2.1 * 4096, r.2.2.2.2 * 4096]
  | _ => words [r.2.2.2.1 * 4096, 0, 0, r.2.2.2.2 * 4096]
/-- a part's bytes -/
def RefB (more : Bool) (r : Ref) (bs : List Int) : Prop :=
  ∃ (sm : Bool) (md : Nat), md ≤ 3 ∧ (sm = true → (-128 ≤ r.2.1 ∧ r.2.1 ≤ 127) ∧ (-128 ≤ r.2.2.1 ∧ r.2.2.1 ≤ 127)) ∧ (md = 0 → r.2.2.2.1 = 4 ∧ r.2.2.2.2 = 4) ∧ (md = 1 → r.2.2.2.1 = r.2.2.2.2) ∧
    bs = words [flg more sm md, r.1] ++ dxy sm r ++ scl md r
/-- parts, one behind the other -/
inductive Parts : List Ref → List Int → Prop
  | one {r : Ref} {bs : List Int} : RefB false r bs → Parts [r] bs
  | more {r : Ref} {Rs : List Ref} {bs bs' : List Int} : RefB true r bs → Parts Rs bs' → Parts (r :: Rs) (bs ++ bs')
/-- a glyph of parts as bytes -/
def CodR (Rs : List Ref) (bs : List Int) : Prop := ∃ (a b c d : Int) (pb : List Int), bs = words [-1, a, b, c, d] ++ pb ∧ Parts Rs pb ∧ Byt bs
theorem small_in (v : Int) (h : -128 ≤ v ∧ v ≤ 127) : IntKind.i8.wrap (lo v) = v := by
  unfold lo
  simp only [IntKind.wrap, IntKind.bits, IntKind.signed]; simp; split <;> omega
/-- cells laid from a place on -/
def lay : List Value → Nat → List Value → List Value
  | bd, _, [] => bd
  | bd, p, v :: c => lay (bd.set p v) (p + 1) c
theorem lay_len : ∀ (c bd : List Value) (p : Nat), (lay bd p c).length = bd.length
  | [], _, _ => rfl
  | v :: c, bd, p => by rw [lay, lay_len c, List.length_set]
theorem lay_out : ∀ (c bd : List Value) (p q : Nat), q < p ∨ p + c.length ≤ q → (lay bd p c)[q]? = bd[q]?
  | [], _, _, _, _ => rfl
  | v :: c, bd, p, q, h => by
    rw [List.length_cons] at h
    rw [lay, lay_out c _ _ _ (by omega), List.getElem?_set_ne (by omega)]
theorem lay_in : ∀ (c bd : List Value) (p j : Nat), p + c.length ≤ bd.length → j < c.length → (lay bd p c)[p + j]? = c[j]?
  | [], _, _, j, _, h => absurd h (by simp)
  | v :: c, bd, p, 0, hl, _ => by
    rw [List.length_cons] at hl
    rw [lay, lay_out c _ _ _ (by omega), Nat.add_zero, List.getElem?_set_self (by omega)]
    rfl
  | v :: c, bd, p, j + 1, hl, h => by
    rw [List.length_cons] at hl h
    rw [lay, show p + (j + 1) = p + 1 + j by omega, lay_in c _ _ j (by rw [List.length_set]; omega) (by omega)]
    rfl
end Go.Proofs.YtdeaodgcdacleaaDoor.RefE
