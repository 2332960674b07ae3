/- Contracts: the meeting of two boxes. -/
import Derived.Test.YtjpnobmgcgeofaaGeo2
namespace Go.Proofs.Ytjpnobmgcgeofaa.Meet
open Go.ChangeShapes Go.WideShapes Go.ChangeAt Go.RowKit
open Geo

set_option maxHeartbeats 8000000 in
theorem inter_no (a b c d e f g h m0 m1 m2 m3 : Int) (w : World) (k0 : (a < e ∧ m0 = e) ∨ (¬ a < e ∧ m0 = a)) (k1 : (b < f ∧ m1 = f) ∨ (¬ b < f ∧ m1 = b)) (k2 : (g < c ∧ m2 = g) ∨ (¬ g < c ∧ m2 = c)) (k3 : (h < d ∧ m3 = h) ∨ (¬ h < d ∧ m3 = d))
    (E : emptyB m0 m1 m2 m3 = false) :
    Calls Try.prog 36 #[.agg #[.int .i32 a, .int .i32 b, .int .i32 c, .int .i32 d], .agg #[.int .i32 e, .int .i32 f, .int .i32 g, .int .i32 h]] w fun e' w' => e' = .returned (.agg #[.int .i32 m0, .int .i32 m1, .int .i32 m2, .int .i32 m3]) ∧
    ((((w.alloc (Obj.cells #[.int .i32 m0, .int .i32 m1, .int .i32 m2, .int .i32 m3] 54)).alloc (Obj.cells #[.int .i32 e, .int .i32 f, .int .i32 g, .int .i32 h] 54)).alloc (Obj.cells #[.int .i32 m0, .int .i32 m1, .int .i32 m2, .int .i32 m3] 54)).alloc (Obj.cells #[.int .i32 m0, .int .i32 m1, .int .i32 m2, .int .i32 m3] 54)) = w' := by
  rcases k0 with ⟨c0, rfl⟩ | ⟨c0, rfl⟩ <;> rcases k1 with ⟨c1, rfl⟩ | ⟨c1, rfl⟩ <;> rcases k2 with ⟨c2, rfl⟩ | ⟨c2, rfl⟩ <;> rcases k3 with ⟨c3, rfl⟩ | ⟨c3, rfl⟩ <;>
  (go_enter Try.func36, Try.ntmps36
   go_wp2_with (go_at_call 38; refine (rectEmpty_at _ _ _ _ _).mono ?_; rintro e w1 ⟨rfl, rfl⟩)
   refine bodyPost_ret (v := .agg #[.int .i32 m0, .int .i32 m1, .int .i32 m2, .int .i32 m3]) (by simp [results, Try.results36, go_sem]) rfl ⟨rfl, rfl⟩)
set_option maxHeartbeats 8000000 in
theorem inter_yes (a b c d e f g h m0 m1 m2 m3 : Int) (w : World) (k0 : (a < e ∧ m0 = e) ∨ (¬ a < e ∧ m0 = a)) (k1 : (b < f ∧ m1 = f) ∨ (¬ b < f ∧ m1 = b)) (k2 : (g < c ∧ m2 = g) ∨ (¬ g < c ∧ m2 = c)) (k3 : (h < d ∧ m3 = h) ∨ (¬ h < d ∧ m3 = d))
    (E : emptyB m0 m1 m2 m3 = true) :
    Calls Try.prog 36 #[.agg #[.int .i32 a, .int .i32 b, .int .i32 c, .int .i32 d], .agg #[.int .i32 e, .int .i32 f, .int .i32 g, .int .i32 h]] w fun e' w' => e' = .returned (.agg #[.int .i32 0, .int .i32 0, .int .i32 0, .int .i32 0]) ∧
    ((((w.alloc (Obj.cells #[.int .i32 m0, .int .i32 m1, .int .i32 m2, .int .i32 m3] 54)).alloc (Obj.cells #[.int .i32 e, .int .i32 f, .int .i32 g, .int .i32 h] 54)).alloc (Obj.cells #[.int .i32 0, .int .i32 0, .int .i32 0, .int .i32 0] 54)).alloc (Obj.cells #[.int .i32 m0, .int .i32 m1, .int .i32 m2, .int .i32 m3] 54)) = w' := by
  rcases k0 with ⟨c0, rfl⟩ | ⟨c0, rfl⟩ <;> rcases k1 with ⟨c1, rfl⟩ | ⟨c1, rfl⟩ <;> rcases k2 with ⟨c2, rfl⟩ | ⟨c2, rfl⟩ <;> rcases k3 with ⟨c3, rfl⟩ | ⟨c3, rfl⟩ <;>
  (go_enter Try.func36, Try.ntmps36
   go_wp2_with (go_at_call 38; refine (rectEmpty_at _ _ _ _ _).mono ?_; rintro e w1 ⟨rfl, rfl⟩)
   refine bodyPost_ret (v := .agg #[.int .i32 0, .int .i32 0, .int .i32 0, .int .i32 0]) (by simp [results, Try.results36, go_sem]) rfl ⟨rfl, rfl⟩)
end Go.Proofs.Ytjpnobmgcgeofaa.Meet
