/- Contracts: the meeting of two boxes, saying of the memory only that nothing that was there is written. -/
import Derived.Test.YtjpnobmgcgeofaaMeet
namespace Go.Proofs.Ytjpnobmgcgeofaa.Meet
open Go.ChangeShapes Go.WideShapes Go.ChangeAt Go.RowKit
open Geo

theorem inter_no_any (a b c d e f g h m0 m1 m2 m3 : Int) (w : World) (k0 : (a < e ∧ m0 = e) ∨ (¬ a < e ∧ m0 = a)) (k1 : (b < f ∧ m1 = f) ∨ (¬ b < f ∧ m1 = b)) (k2 : (g < c ∧ m2 = g) ∨ (¬ g < c ∧ m2 = c)) (k3 : (h < d ∧ m3 = h) ∨ (¬ h < d ∧ m3 = d))
    (E : emptyB m0 m1 m2 m3 = false) :
    Calls Try.prog 36 #[.agg #[.int .i32 a, .int .i32 b, .int .i32 c, .int .i32 d], .agg #[.int .i32 e, .int .i32 f, .int .i32 g, .int .i32 h]] w fun e' w' => e' = .returned (.agg #[.int .i32 m0, .int .i32 m1, .int .i32 m2, .int .i32 m3]) ∧ Below w.heap.size w w' :=
  (inter_no a b c d e f g h m0 m1 m2 m3 w k0 k1 k2 k3 E).mono fun _ _ ⟨he, hw⟩ => ⟨he, hw ▸ bel_alloc (bel_alloc (bel_alloc (bel_alloc (Below.refl _ _) _) _) _) _⟩
theorem inter_yes_any (a b c d e f g h m0 m1 m2 m3 : Int) (w : World) (k0 : (a < e ∧ m0 = e) ∨ (¬ a < e ∧ m0 = a)) (k1 : (b < f ∧ m1 = f) ∨ (¬ b < f ∧ m1 = b)) (k2 : (g < c ∧ m2 = g) ∨ (¬ g < c ∧ m2 = c)) (k3 : (h < d ∧ m3 = h) ∨ (¬ h < d ∧ m3 = d))
    (E : emptyB m0 m1 m2 m3 = true) :
    Calls Try.prog 36 #[.agg #[.int .i32 a, .int .i32 b, .int .i32 c, .int .i32 d], .agg #[.int .i32 e, .int .i32 f, .int .i32 g, .int .i32 h]] w fun e' w' => e' = .returned (.agg #[.int .i32 0, .int .i32 0, .int .i32 0, .int .i32 0]) ∧ Below w.heap.size w w' :=
  (inter_yes a b c d e f g h m0 m1 m2 m3 w k0 k1 k2 k3 E).mono fun _ _ ⟨he, hw⟩ => ⟨he, hw ▸ bel_alloc (bel_alloc (bel_alloc (bel_alloc (Below.refl _ _) _) _) _) _⟩
end Go.Proofs.Ytjpnobmgcgeofaa.Meet
