/- Contracts: a place times and over a number; a place, a box back into the thin package's own kinds. -/
import Derived.Test.YtjpnobmgcgeofaaGeo
import Derived.Test.YtjpnobmgcgeofaaBox
namespace Go.Proofs.Ytjpnobmgcgeofaa.Geo2
open Go.ChangeShapes Go.WideShapes Go.ChangeAt Go.RowKit
open Geo

theorem pointOf_at (a b : Int) (w : World) (ha : -2147483648 ≤ a ∧ a ≤ 2147483647) (hb : -2147483648 ≤ b ∧ b ≤ 2147483647) :
    Calls Try.prog 26 #[.agg #[.int .i32 a, .int .i32 b]] w fun e w' => e = .returned (.agg #[.int .i64 a, .int .i64 b]) ∧ (w.alloc (Obj.cells #[.int .i32 a, .int .i32 b] 50)).alloc (Obj.cells #[.int .i64 a, .int .i64 b] 27) = w' := by
  go_enter Try.func26, Try.ntmps26
  go_wp2
  exact bodyPost_ret (v := .agg #[.int .i64 a, .int .i64 b]) (by simp [results, Try.results26, go_sem]) rfl ⟨rfl, rfl⟩

theorem boxOf_at (a b c d : Int) (w : World) (ha : -2147483648 ≤ a ∧ a ≤ 2147483647) (hb : -2147483648 ≤ b ∧ b ≤ 2147483647) (hc : -2147483648 ≤ c ∧ c ≤ 2147483647) (hd : -2147483648 ≤ d ∧ d ≤ 2147483647) :
    Calls Try.prog 35 #[.agg #[.int .i32 a, .int .i32 b, .int .i32 c, .int .i32 d]] w fun e w' => e = .returned (.agg #[.int .i64 a, .int .i64 b, .int .i64 c, .int .i64 d]) ∧
      (w.alloc (Obj.cells #[.int .i32 a, .int .i32 b, .int .i32 c, .int .i32 d] 54)).alloc (Obj.cells #[.int .i64 a, .int .i64 b, .int .i64 c, .int .i64 d] 31) = w' := by
  go_enter Try.func35, Try.ntmps35
  go_wp2
  exact bodyPost_ret (v := .agg #[.int .i64 a, .int .i64 b, .int .i64 c, .int .i64 d]) (by simp [results, Try.results35, go_sem]) rfl ⟨rfl, rfl⟩

theorem boxOf_any (a b c d : Int) (w : World) (ha : -2147483648 ≤ a ∧ a ≤ 2147483647) (hb : -2147483648 ≤ b ∧ b ≤ 2147483647) (hc : -2147483648 ≤ c ∧ c ≤ 2147483647) (hd : -2147483648 ≤ d ∧ d ≤ 2147483647) :
    Calls Try.prog 35 #[.agg #[.int .i32 a, .int .i32 b, .int .i32 c, .int .i32 d]] w fun e w' => e = .returned (.agg #[.int .i64 a, .int .i64 b, .int .i64 c, .int .i64 d]) ∧ Below w.heap.size w w' :=
  (boxOf_at a b c d w ha hb hc hd).mono fun _ _ ⟨he, hw⟩ => ⟨he, hw ▸ bel_alloc (bel_alloc (Below.refl _ _) _) _⟩

theorem mul_at (x y k : Int) (w : World) (h1 : -2147483648 ≤ x * k ∧ x * k ≤ 2147483647) (h2 : -2147483648 ≤ y * k ∧ y * k ≤ 2147483647) :
    Calls Try.prog 28 #[.agg #[.int .i32 x, .int .i32 y], .int .i32 k] w fun e w' => e = .returned (.agg #[.int .i32 ((x * k).tdiv 64), .int .i32 ((y * k).tdiv 64)]) ∧
      (w.alloc (Obj.cells #[.int .i32 x, .int .i32 y] 50)).alloc (Obj.cells #[.int .i32 ((x * k).tdiv 64), .int .i32 ((y * k).tdiv 64)] 50) = w' := by
  have q1 := Nums.tdiv_lit (x * k) 64 2147483648 33554432 (by omega) (by omega) (by omega)
  have q2 := Nums.tdiv_lit (y * k) 64 2147483648 33554432 (by omega) (by omega) (by omega)
  go_enter Try.func28, Try.ntmps28
  go_wp2
  exact bodyPost_ret (v := .agg #[.int .i32 ((x * k).tdiv 64), .int .i32 ((y * k).tdiv 64)]) (by simp [results, Try.results28, go_sem]) rfl ⟨rfl, rfl⟩
theorem div_at (x y k : Int) (w : World) (h1 : -2147483647 ≤ x * 64 ∧ x * 64 ≤ 2147483647) (h2 : -2147483647 ≤ y * 64 ∧ y * 64 ≤ 2147483647) (hk : ¬ k = 0) :
    Calls Try.prog 29 #[.agg #[.int .i32 x, .int .i32 y], .int .i32 k] w fun e w' => e = .returned (.agg #[.int .i32 ((x * 64).tdiv k), .int .i32 ((y * 64).tdiv k)]) ∧
      ((w.alloc (Obj.cells #[.int .i32 x, .int .i32 y] 50)).alloc (Obj.cells #[.int .i32 ((x * 64).tdiv k), .int .i32 ((y * 64).tdiv k)] 50)).drew = w' := by
  have q1 := Nums.tdiv_bd (x * 64) k 2147483647 (by omega) (by omega)
  have q2 := Nums.tdiv_bd (y * 64) k 2147483647 (by omega) (by omega)
  have e1 : IntKind.i32.wrap (x * 64) = x * 64 := IntWalk.i32_in _ (by omega)
  have e2 : IntKind.i32.wrap (y * 64) = y * 64 := IntWalk.i32_in _ (by omega)
  have e3 : IntKind.i32.wrap ((x * 64).tdiv k) = (x * 64).tdiv k := IntWalk.i32_in _ (by omega)
  have e4 : IntKind.i32.wrap ((y * 64).tdiv k) = (y * 64).tdiv k := IntWalk.i32_in _ (by omega)
  go_enter Try.func29, Try.ntmps29
  go_wp2
  go_region_held3 (fun w' => w'.cell? ⟨w.heap.size, 0, none⟩ = some (.int .i32 x) ∧ w'.cell? ⟨w.heap.size, 1, none⟩ = some (.int .i32 y))
    ((refine ⟨?_, ?_⟩ <;> go_simp)) (fail)
  go_wp2
  exact bodyPost_ret (v := .agg #[.int .i32 ((x * 64).tdiv k), .int .i32 ((y * 64).tdiv k)]) (by simp [results, Try.results29, go_sem]) rfl ⟨rfl, rfl⟩
theorem pointMul_any (x y k : Int) (w : World) (hk : -2147483648 ≤ k ∧ k ≤ 2147483647) (hx : -2147483648 ≤ x ∧ x ≤ 2147483647) (hy : -2147483648 ≤ y ∧ y ≤ 2147483647) (h1 : -2147483648 ≤ x * k ∧ x * k ≤ 2147483647) (h2 : -2147483648 ≤ y * k ∧ y * k ≤ 2147483647) :
    Calls Try.prog 12 #[.agg #[.int .i64 x, .int .i64 y], .int .i64 k] w fun e w' => e = .returned (.agg #[.int .i64 ((x * k).tdiv 64), .int .i64 ((y * k).tdiv 64)]) ∧ Below w.heap.size w w' := by
  have q1 := Nums.tdiv_lit (x * k) 64 2147483648 33554432 (by omega) (by omega) (by omega)
  have q2 := Nums.tdiv_lit (y * k) 64 2147483648 33554432 (by omega) (by omega) (by omega)
  go_enter Try.func12, Try.ntmps12
  go_wp2_with (first | (go_at_call 27; refine (pointTo_at _ _ _ hx hy).mono ?_; rintro e w' ⟨rfl, rfl⟩) | (go_at_call 28; refine (mul_at _ _ _ _ h1 h2).mono ?_; rintro e w' ⟨rfl, rfl⟩) | (go_at_call 26; refine (pointOf_at _ _ _ (by omega) (by omega)).mono ?_; rintro e w' ⟨rfl, rfl⟩))
  exact bodyPost_ret (v := .agg #[.int .i64 ((x * k).tdiv 64), .int .i64 ((y * k).tdiv 64)]) (by simp [results, Try.results12, go_sem]) rfl ⟨rfl, by repeat (first | exact Below.refl _ _ | apply Below.drew | apply bel_alloc)⟩
theorem pointDiv_any (x y k : Int) (w : World) (hk : -2147483648 ≤ k ∧ k ≤ 2147483647) (hx : -2147483648 ≤ x ∧ x ≤ 2147483647) (hy : -2147483648 ≤ y ∧ y ≤ 2147483647) (h1 : -2147483647 ≤ x * 64 ∧ x * 64 ≤ 2147483647) (h2 : -2147483647 ≤ y * 64 ∧ y * 64 ≤ 2147483647) (hk0 : ¬ k = 0) :
    Calls Try.prog 13 #[.agg #[.int .i64 x, .int .i64 y], .int .i64 k] w fun e w' => e = .returned (.agg #[.int .i64 ((x * 64).tdiv k), .int .i64 ((y * 64).tdiv k)]) ∧ Below w.heap.size w w' := by
  have q1 := Nums.tdiv_bd (x * 64) k 2147483647 (by omega) (by omega)
  have q2 := Nums.tdiv_bd (y * 64) k 2147483647 (by omega) (by omega)
  go_enter Try.func13, Try.ntmps13
  go_wp2_with (first | (go_at_call 27; refine (pointTo_at _ _ _ hx hy).mono ?_; rintro e w' ⟨rfl, rfl⟩) | (go_at_call 29; refine (div_at _ _ _ _ h1 h2 hk0).mono ?_; rintro e w' ⟨rfl, rfl⟩) | (go_at_call 26; refine (pointOf_at _ _ _ (by omega) (by omega)).mono ?_; rintro e w' ⟨rfl, rfl⟩))
  exact bodyPost_ret (v := .agg #[.int .i64 ((x * 64).tdiv k), .int .i64 ((y * 64).tdiv k)]) (by simp [results, Try.results13, go_sem]) rfl ⟨rfl, by repeat (first | exact Below.refl _ _ | apply Below.drew | apply bel_alloc)⟩
end Go.Proofs.Ytjpnobmgcgeofaa.Geo2
