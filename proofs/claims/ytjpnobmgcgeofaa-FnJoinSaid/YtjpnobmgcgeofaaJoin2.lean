/- Contracts: the thin package's call of the union of two boxes, out of that of the package. -/
import Derived.Test.YtjpnobmgcgeofaaJoin
import Derived.Test.YtjpnobmgcgeofaaBox2
namespace Go.Proofs.Ytjpnobmgcgeofaa.Join2
open Go.ChangeShapes Go.WideShapes Go.ChangeAt Go.RowKit
open Geo

attribute [local go_sem low] Box.cell_old Box.frozen_old
attribute [local go_sem] Box.boxed4_any

set_option maxHeartbeats 2000000 in
theorem join_any (a b c d e f g h r0 r1 r2 r3 : Int) (w : World) (ba : -2147483648 ≤ a ∧ a ≤ 2147483647) (bb : -2147483648 ≤ b ∧ b ≤ 2147483647) (bc : -2147483648 ≤ c ∧ c ≤ 2147483647) (bd : -2147483648 ≤ d ∧ d ≤ 2147483647)
    (be : -2147483648 ≤ e ∧ e ≤ 2147483647) (bf : -2147483648 ≤ f ∧ f ≤ 2147483647) (bg : -2147483648 ≤ g ∧ g ≤ 2147483647) (bh : -2147483648 ≤ h ∧ h ≤ 2147483647)
    (b0 : -2147483648 ≤ r0 ∧ r0 ≤ 2147483647) (b1 : -2147483648 ≤ r1 ∧ r1 ≤ 2147483647) (b2 : -2147483648 ≤ r2 ∧ r2 ≤ 2147483647) (b3 : -2147483648 ≤ r3 ∧ r3 ≤ 2147483647)
    (H : Hid (∀ w : World, Calls Try.prog 37 #[.agg #[.int .i32 a, .int .i32 b, .int .i32 c, .int .i32 d], .agg #[.int .i32 e, .int .i32 f, .int .i32 g, .int .i32 h]] w fun e' w' => e' = .returned (.agg #[.int .i32 r0, .int .i32 r1, .int .i32 r2, .int .i32 r3]) ∧ Below w.heap.size w w')) :
    Calls Try.prog 23 #[.agg #[.int .i64 a, .int .i64 b, .int .i64 c, .int .i64 d], .agg #[.int .i64 e, .int .i64 f, .int .i64 g, .int .i64 h]] w fun e' w' => e' = .returned (.agg #[.int .i64 r0, .int .i64 r1, .int .i64 r2, .int .i64 r3]) ∧ Below w.heap.size w w' := by
  go_enter Try.func23, Try.ntmps23
  go_wp2_with fail
  go_region_held3 (fun w' => w'.cell? ⟨w.heap.size, 0, none⟩ = some (.int .i64 a) ∧ w'.cell? ⟨w.heap.size, 1, none⟩ = some (.int .i64 b) ∧ w'.cell? ⟨w.heap.size, 2, none⟩ = some (.int .i64 c) ∧ w'.cell? ⟨w.heap.size, 3, none⟩ = some (.int .i64 d) ∧ w'.cell? ⟨w.heap.size + 1, 0, none⟩ = some (.int .i64 e) ∧ w'.cell? ⟨w.heap.size + 1, 1, none⟩ = some (.int .i64 f) ∧ w'.cell? ⟨w.heap.size + 1, 2, none⟩ = some (.int .i64 g) ∧ w'.cell? ⟨w.heap.size + 1, 3, none⟩ = some (.int .i64 h) ∧ Box.Boxed4 (w.heap.size + 1 + 1) w' ∧ Below w.heap.size w w')
    (first | (go_split_ands; with_reducible refine ⟨keep_cell hb rfl ?_, keep_cell hb rfl ?_, keep_cell hb rfl ?_, keep_cell hb rfl ?_, keep_cell hb rfl ?_, keep_cell hb rfl ?_, keep_cell hb rfl ?_, keep_cell hb rfl ?_, Box.Boxed4.step ?_ hb rfl, bel_trans ?_ hb⟩ <;> with_reducible assumption) | (go_split_ands; with_reducible refine ⟨Box.set4_keep (by omega) ?_, Box.set4_keep (by omega) ?_, Box.set4_keep (by omega) ?_, Box.set4_keep (by omega) ?_, Box.set4_keep (by omega) ?_, Box.set4_keep (by omega) ?_, Box.set4_keep (by omega) ?_, Box.set4_keep (by omega) ?_, Box.set4_box ?_, Box.set4_bel ?_ (by omega)⟩ <;> with_reducible assumption) | (refine ⟨?_, ?_, ?_, ?_, ?_, ?_, ?_, ?_, Box.Boxed4.drew (Box.Boxed4.new_ (by simp)), Below.drew (bel_alloc (bel_alloc (bel_alloc (Below.refl _ _) _) _) _)⟩ <;> go_simp))
    (first | (go_at_call 30; refine (boxTo_any _ _ _ _ _ (by omega) (by omega) (by omega) (by omega)).mono ?_; rintro ex w1 ⟨rfl, hb⟩) | (go_at_call 37; refine (H.out _).mono ?_; rintro ex w1 ⟨rfl, hb⟩) | (go_at_call 35; refine (Geo2.boxOf_any _ _ _ _ _ b0 b1 b2 b3).mono ?_; rintro ex w1 ⟨rfl, hb⟩))
  go_split_ands
  rename_i hbox hbel
  obtain ⟨q0, q1, q2, q3⟩ := hbox.four
  go_wp2
  exact bodyPost_ret (v := .agg #[.int .i64 r0, .int .i64 r1, .int .i64 r2, .int .i64 r3]) (by simp [results, Try.results23, go_sem, q0, q1, q2, q3]) rfl ⟨rfl, hbel⟩
end Go.Proofs.Ytjpnobmgcgeofaa.Join2
