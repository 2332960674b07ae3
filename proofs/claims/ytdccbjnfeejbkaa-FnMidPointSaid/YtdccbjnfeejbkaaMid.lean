/- Contracts of the middle of two places: the package's function, its export, and the thin package's call. -/
import Derived.Test.YtdccbjnfeejbkaaGeo
namespace Go.Proofs.Ytdccbjnfeejbkaa.Mid
open Go.ChangeShapes Go.WideShapes Go.ChangeAt Go.RowKit
open Geo

theorem mid_at (a b c d : Int) (w : World) (ha : -1000000000 ≤ a ∧ a ≤ 1000000000) (hb : -1000000000 ≤ b ∧ b ≤ 1000000000) (hc : -1000000000 ≤ c ∧ c ≤ 1000000000) (hd : -1000000000 ≤ d ∧ d ≤ 1000000000) :
    Calls Try.prog 44 #[.agg #[.int .i32 a, .int .i32 b], .agg #[.int .i32 c, .int .i32 d]] w fun e w' => e = .returned (.agg #[.int .i32 ((a + c).tdiv 2), .int .i32 ((b + d).tdiv 2)]) ∧
      ((w.alloc (Obj.cells #[.int .i32 a, .int .i32 b] 49)).alloc (Obj.cells #[.int .i32 c, .int .i32 d] 49)).alloc (Obj.cells #[.int .i32 ((a + c).tdiv 2), .int .i32 ((b + d).tdiv 2)] 49) = w' := by
  have q1 := Nums.tdiv_bd (a + c) 2 2000000000 (by omega) (by omega)
  have q2 := Nums.tdiv_bd (b + d) 2 2000000000 (by omega) (by omega)
  go_enter Try.func44, Try.ntmps44
  go_wp2
  exact bodyPost_ret (v := .agg #[.int .i32 ((a + c).tdiv 2), .int .i32 ((b + d).tdiv 2)]) (by simp [results, Try.results44, go_sem]) rfl ⟨rfl, rfl⟩
theorem zzMid_at (a b c d : Int) (w : World) (ha : -1000000000 ≤ a ∧ a ≤ 1000000000) (hb : -1000000000 ≤ b ∧ b ≤ 1000000000) (hc : -1000000000 ≤ c ∧ c ≤ 1000000000) (hd : -1000000000 ≤ d ∧ d ≤ 1000000000) :
    Calls Try.prog 41 #[.agg #[.int .i32 a, .int .i32 b], .agg #[.int .i32 c, .int .i32 d]] w fun e w' => e = .returned (.agg #[.int .i32 ((a + c).tdiv 2), .int .i32 ((b + d).tdiv 2)]) ∧
      (((((w.alloc (Obj.cells #[.int .i32 a, .int .i32 b] 49)).alloc (Obj.cells #[.int .i32 c, .int .i32 d] 49)).alloc (Obj.cells #[.int .i32 ((a + c).tdiv 2), .int .i32 ((b + d).tdiv 2)] 49)).alloc (Obj.cells #[.int .i32 a, .int .i32 b] 49)).alloc (Obj.cells #[.int .i32 c, .int .i32 d] 49)).alloc (Obj.cells #[.int .i32 ((a + c).tdiv 2), .int .i32 ((b + d).tdiv 2)] 49) = w' := by
  go_enter Try.func41, Try.ntmps41
  go_wp2_with (go_at_call 44; refine (mid_at _ _ _ _ _ ha hb hc hd).mono ?_; rintro e w1 ⟨rfl, rfl⟩)
  exact bodyPost_ret (v := .agg #[.int .i32 ((a + c).tdiv 2), .int .i32 ((b + d).tdiv 2)]) (by simp [results, Try.results41, go_sem]) rfl ⟨rfl, rfl⟩

theorem pointOf_at (a b : Int) (w : World) (ha : -2147483648 ≤ a ∧ a ≤ 2147483647) (hb : -2147483648 ≤ b ∧ b ≤ 2147483647) :
    Calls Try.prog 40 #[.agg #[.int .i32 a, .int .i32 b]] w fun e w' => e = .returned (.agg #[.int .i64 a, .int .i64 b]) ∧ (w.alloc (Obj.cells #[.int .i32 a, .int .i32 b] 49)).alloc (Obj.cells #[.int .i64 a, .int .i64 b] 35) = w' := by
  go_enter Try.func40, Try.ntmps40
  go_wp2
  exact bodyPost_ret (v := .agg #[.int .i64 a, .int .i64 b]) (by simp [results, Try.results40, go_sem]) rfl ⟨rfl, rfl⟩

set_option maxHeartbeats 2000000 in
theorem midPoint_any (a b c d : Int) (w : World) (ha : -1000000000 ≤ a ∧ a ≤ 1000000000) (hb : -1000000000 ≤ b ∧ b ≤ 1000000000) (hc : -1000000000 ≤ c ∧ c ≤ 1000000000) (hd : -1000000000 ≤ d ∧ d ≤ 1000000000) :
    Calls Try.prog 26 #[.agg #[.int .i64 a, .int .i64 b], .agg #[.int .i64 c, .int .i64 d]] w fun e w' => e = .returned (.agg #[.int .i64 ((a + c).tdiv 2), .int .i64 ((b + d).tdiv 2)]) ∧ Below w.heap.size w w' := by
  have q1 := Nums.tdiv_bd (a + c) 2 2000000000 (by omega) (by omega)
  have q2 := Nums.tdiv_bd (b + d) 2 2000000000 (by omega) (by omega)
  go_enter Try.func26, Try.ntmps26
  go_wp2_with fail
  go_region_held3 (fun w' => w'.cell? ⟨w.heap.size, 0, none⟩ = some (.int .i64 a) ∧ w'.cell? ⟨w.heap.size, 1, none⟩ = some (.int .i64 b) ∧ w'.cell? ⟨w.heap.size + 1, 0, none⟩ = some (.int .i64 c) ∧ w'.cell? ⟨w.heap.size + 1, 1, none⟩ = some (.int .i64 d))
    ((refine ⟨?_, ?_, ?_, ?_⟩ <;> go_simp))
    (first | (go_at_call 31; refine (pointTo_at _ _ _ (by omega) (by omega)).mono ?_; rintro e w' ⟨rfl, rfl⟩)
           | (go_at_call 41; refine (zzMid_at _ _ _ _ _ ha hb hc hd).mono ?_; rintro e w' ⟨rfl, rfl⟩)
           | (go_at_call 40; refine (pointOf_at _ _ _ (by omega) (by omega)).mono ?_; rintro e w' ⟨rfl, rfl⟩))
  all_goals go_wp2
  all_goals exact bodyPost_ret (v := .agg #[.int .i64 ((a + c).tdiv 2), .int .i64 ((b + d).tdiv 2)]) (by simp [results, Try.results26, go_sem]) rfl ⟨rfl, by repeat (first | exact Below.refl _ _ | apply Below.drew | apply bel_alloc)⟩
end Go.Proofs.Ytdccbjnfeejbkaa.Mid
