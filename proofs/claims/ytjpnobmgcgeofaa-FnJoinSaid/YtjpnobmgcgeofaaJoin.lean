/- Contracts: the union of two boxes. -/
import Derived.Test.YtjpnobmgcgeofaaGeo2
namespace Go.Proofs.Ytjpnobmgcgeofaa.Join
open Go.ChangeShapes Go.WideShapes Go.ChangeAt Go.RowKit
open Geo

theorem union_r (a b c d e f g h : Int) (w : World) (E : emptyB a b c d = true) :
    Calls Try.prog 37 #[.agg #[.int .i32 a, .int .i32 b, .int .i32 c, .int .i32 d], .agg #[.int .i32 e, .int .i32 f, .int .i32 g, .int .i32 h]] w fun e' w' => e' = .returned (.agg #[.int .i32 e, .int .i32 f, .int .i32 g, .int .i32 h]) ∧ Below w.heap.size w w' := by
  go_enter Try.func37, Try.ntmps37
  go_wp2_with (go_at_call 38; refine (rectEmpty_at _ _ _ _ _).mono ?_; rintro ex w1 ⟨rfl, rfl⟩)
  exact bodyPost_ret (v := .agg #[.int .i32 e, .int .i32 f, .int .i32 g, .int .i32 h]) (by simp [results, Try.results37, go_sem]) rfl ⟨rfl, by repeat (first | exact Below.refl _ _ | apply Below.drew | apply bel_alloc)⟩
theorem union_s (a b c d e f g h : Int) (w : World) (E : emptyB a b c d = false) (E2 : emptyB e f g h = true) :
    Calls Try.prog 37 #[.agg #[.int .i32 a, .int .i32 b, .int .i32 c, .int .i32 d], .agg #[.int .i32 e, .int .i32 f, .int .i32 g, .int .i32 h]] w fun e' w' => e' = .returned (.agg #[.int .i32 a, .int .i32 b, .int .i32 c, .int .i32 d]) ∧ Below w.heap.size w w' := by
  go_enter Try.func37, Try.ntmps37
  go_wp2_with fail
  refine (rectEmpty_at _ _ _ _ _).mono ?_
  rintro ex w1 ⟨rfl, rfl⟩
  go_wp2_with fail
  refine (rectEmpty_at _ _ _ _ _).mono ?_
  rintro ex w1 ⟨rfl, rfl⟩
  go_wp2_with fail
  exact bodyPost_ret (v := .agg #[.int .i32 a, .int .i32 b, .int .i32 c, .int .i32 d]) (by simp [results, Try.results37, go_sem]) rfl ⟨rfl, by repeat (first | exact Below.refl _ _ | apply Below.drew | apply bel_alloc)⟩
set_option maxHeartbeats 8000000 in
theorem union_m (a b c d e f g h m0 m1 m2 m3 : Int) (w : World) (k0 : (e < a ∧ m0 = e) ∨ (¬ e < a ∧ m0 = a)) (k1 : (f < b ∧ m1 = f) ∨ (¬ f < b ∧ m1 = b)) (k2 : (c < g ∧ m2 = g) ∨ (¬ c < g ∧ m2 = c)) (k3 : (d < h ∧ m3 = h) ∨ (¬ d < h ∧ m3 = d))
    (E : emptyB a b c d = false) (E2 : emptyB e f g h = false) :
    Calls Try.prog 37 #[.agg #[.int .i32 a, .int .i32 b, .int .i32 c, .int .i32 d], .agg #[.int .i32 e, .int .i32 f, .int .i32 g, .int .i32 h]] w fun e' w' => e' = .returned (.agg #[.int .i32 m0, .int .i32 m1, .int .i32 m2, .int .i32 m3]) ∧ Below w.heap.size w w' := by
  rcases k0 with ⟨c0, rfl⟩ | ⟨c0, rfl⟩ <;> rcases k1 with ⟨c1, rfl⟩ | ⟨c1, rfl⟩ <;> rcases k2 with ⟨c2, rfl⟩ | ⟨c2, rfl⟩ <;> rcases k3 with ⟨c3, rfl⟩ | ⟨c3, rfl⟩ <;>
  (go_enter Try.func37, Try.ntmps37
   go_wp2_with fail
   refine (rectEmpty_at _ _ _ _ _).mono ?_
   rintro ex w1 ⟨rfl, rfl⟩
   go_wp2_with fail
   refine (rectEmpty_at _ _ _ _ _).mono ?_
   rintro ex w1 ⟨rfl, rfl⟩
   go_wp2_with fail
   refine bodyPost_ret (v := .agg #[.int .i32 m0, .int .i32 m1, .int .i32 m2, .int .i32 m3]) (by simp [results, Try.results37, go_sem]) rfl ⟨rfl, ?_⟩
   repeat (first | exact Below.refl _ _ | apply Below.drew | apply bel_alloc))
end Go.Proofs.Ytjpnobmgcgeofaa.Join
