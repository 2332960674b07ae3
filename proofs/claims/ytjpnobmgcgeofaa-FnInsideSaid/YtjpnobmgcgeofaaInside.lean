/- Contracts: whether every place of a box is in another one. -/
import Derived.Test.YtjpnobmgcgeofaaGeo
namespace Go.Proofs.Ytjpnobmgcgeofaa.Inside
open Go.ChangeShapes Go.WideShapes Go.ChangeAt Go.RowKit
open Geo

def insB (a b c d e f g h : Int) : Bool := decide (c ≤ a) || decide (d ≤ b) || (decide (e ≤ a) && decide (c ≤ g) && decide (f ≤ b) && decide (d ≤ h))
theorem insB_yes {a b c d e f g h : Int} (H : c ≤ a ∨ d ≤ b ∨ (e ≤ a ∧ c ≤ g ∧ f ≤ b ∧ d ≤ h)) : insB a b c d e f g h = true := by
  simp only [insB, Bool.or_eq_true, Bool.and_eq_true, decide_eq_true_eq]
  omega
theorem insB_no {a b c d e f g h : Int} (H : ¬ (c ≤ a ∨ d ≤ b ∨ (e ≤ a ∧ c ≤ g ∧ f ≤ b ∧ d ≤ h))) : insB a b c d e f g h = false := by
  rw [← Bool.not_eq_true]
  simp only [insB, Bool.or_eq_true, Bool.and_eq_true, decide_eq_true_eq]
  omega
theorem emptyB_yes {a b c d : Int} (h : c ≤ a ∨ d ≤ b) : emptyB a b c d = true := by
  simp only [emptyB, Bool.or_eq_true, decide_eq_true_eq]
  exact h
theorem emptyB_no {a b c d : Int} (h : ¬ (c ≤ a ∨ d ≤ b)) : emptyB a b c d = false := by
  rw [← Bool.not_eq_true]
  simp only [emptyB, Bool.or_eq_true, decide_eq_true_eq]
  exact h

theorem rectIn_any (a b c d e f g h : Int) (w : World) :
    Calls Try.prog 31 #[.agg #[.int .i32 a, .int .i32 b, .int .i32 c, .int .i32 d], .agg #[.int .i32 e, .int .i32 f, .int .i32 g, .int .i32 h]] w fun e' w' => e' = .returned (.bool (insB a b c d e f g h)) ∧ Below w.heap.size w w' := by
  by_cases h1 : c ≤ a
  · have E : emptyB a b c d = true := emptyB_yes (by omega)
    have H := Lib.hid (show insB a b c d e f g h = true from insB_yes (by omega))
    go_enter Try.func31, Try.ntmps31
    go_wp2_with (go_at_call 38; refine (rectEmpty_at _ _ _ _ _).mono ?_; rintro e w1 ⟨rfl, rfl⟩)
    go_ret
    exact ⟨Nums.ret_bool (by first | (rw [H.out]; done) | (rw [H.out]; simp; omega)), by repeat (first | exact Below.refl _ _ | apply Below.drew | apply bel_alloc)⟩
  · by_cases h2 : d ≤ b
    · have E : emptyB a b c d = true := emptyB_yes (by omega)
      have H := Lib.hid (show insB a b c d e f g h = true from insB_yes (by omega))
      go_enter Try.func31, Try.ntmps31
      go_wp2_with (go_at_call 38; refine (rectEmpty_at _ _ _ _ _).mono ?_; rintro e w1 ⟨rfl, rfl⟩)
      go_ret
      exact ⟨Nums.ret_bool (by first | (rw [H.out]; done) | (rw [H.out]; simp; omega)), by repeat (first | exact Below.refl _ _ | apply Below.drew | apply bel_alloc)⟩
    · by_cases h3 : e ≤ a
      · by_cases h4 : c ≤ g
        · by_cases h5 : f ≤ b
          · by_cases h6 : d ≤ h
            · have E : emptyB a b c d = false := emptyB_no (by omega)
              have H := Lib.hid (show insB a b c d e f g h = true from insB_yes (by omega))
              go_enter Try.func31, Try.ntmps31
              go_wp2_with (go_at_call 38; refine (rectEmpty_at _ _ _ _ _).mono ?_; rintro e w1 ⟨rfl, rfl⟩)
              go_ret
              exact ⟨Nums.ret_bool (by first | (rw [H.out]; done) | (rw [H.out]; simp; omega)), by repeat (first | exact Below.refl _ _ | apply Below.drew | apply bel_alloc)⟩
            · have E : emptyB a b c d = false := emptyB_no (by omega)
              have H := Lib.hid (show insB a b c d e f g h = false from insB_no (by omega))
              go_enter Try.func31, Try.ntmps31
              go_wp2_with (go_at_call 38; refine (rectEmpty_at _ _ _ _ _).mono ?_; rintro e w1 ⟨rfl, rfl⟩)
              go_ret
              exact ⟨Nums.ret_bool (by first | (rw [H.out]; done) | (rw [H.out]; simp; omega)), by repeat (first | exact Below.refl _ _ | apply Below.drew | apply bel_alloc)⟩
          · have E : emptyB a b c d = false := emptyB_no (by omega)
            have H := Lib.hid (show insB a b c d e f g h = false from insB_no (by omega))
            go_enter Try.func31, Try.ntmps31
            go_wp2_with (go_at_call 38; refine (rectEmpty_at _ _ _ _ _).mono ?_; rintro e w1 ⟨rfl, rfl⟩)
            go_ret
            exact ⟨Nums.ret_bool (by first | (rw [H.out]; done) | (rw [H.out]; simp; omega)), by repeat (first | exact Below.refl _ _ | apply Below.drew | apply bel_alloc)⟩
        · have E : emptyB a b c d = false := emptyB_no (by omega)
          have H := Lib.hid (show insB a b c d e f g h = false from insB_no (by omega))
          go_enter Try.func31, Try.ntmps31
          go_wp2_with (go_at_call 38; refine (rectEmpty_at _ _ _ _ _).mono ?_; rintro e w1 ⟨rfl, rfl⟩)
          go_ret
          exact ⟨Nums.ret_bool (by first | (rw [H.out]; done) | (rw [H.out]; simp; omega)), by repeat (first | exact Below.refl _ _ | apply Below.drew | apply bel_alloc)⟩
      · have E : emptyB a b c d = false := emptyB_no (by omega)
        have H := Lib.hid (show insB a b c d e f g h = false from insB_no (by omega))
        go_enter Try.func31, Try.ntmps31
        go_wp2_with (go_at_call 38; refine (rectEmpty_at _ _ _ _ _).mono ?_; rintro e w1 ⟨rfl, rfl⟩)
        go_ret
        exact ⟨Nums.ret_bool (by first | (rw [H.out]; done) | (rw [H.out]; simp; omega)), by repeat (first | exact Below.refl _ _ | apply Below.drew | apply bel_alloc)⟩

theorem inside_any (a b c d e f g h : Int) (w : World) (ba : -2147483648 ≤ a ∧ a ≤ 2147483647) (bb : -2147483648 ≤ b ∧ b ≤ 2147483647) (bc : -2147483648 ≤ c ∧ c ≤ 2147483647) (bd : -2147483648 ≤ d ∧ d ≤ 2147483647)
    (be : -2147483648 ≤ e ∧ e ≤ 2147483647) (bf : -2147483648 ≤ f ∧ f ≤ 2147483647) (bg : -2147483648 ≤ g ∧ g ≤ 2147483647) (bh : -2147483648 ≤ h ∧ h ≤ 2147483647) :
    Calls Try.prog 15 #[.agg #[.int .i64 a, .int .i64 b, .int .i64 c, .int .i64 d], .agg #[.int .i64 e, .int .i64 f, .int .i64 g, .int .i64 h]] w fun e' w' => e' = .returned (.bool (insB a b c d e f g h)) ∧ Below w.heap.size w w' := by
  go_enter Try.func15, Try.ntmps15
  go_wp2_with fail
  go_region_held3 (fun w' => w'.cell? ⟨w.heap.size, 0, none⟩ = some (.int .i64 a) ∧ w'.cell? ⟨w.heap.size, 1, none⟩ = some (.int .i64 b) ∧ w'.cell? ⟨w.heap.size, 2, none⟩ = some (.int .i64 c) ∧ w'.cell? ⟨w.heap.size, 3, none⟩ = some (.int .i64 d) ∧
      w'.cell? ⟨w.heap.size + 1, 0, none⟩ = some (.int .i64 e) ∧ w'.cell? ⟨w.heap.size + 1, 1, none⟩ = some (.int .i64 f) ∧ w'.cell? ⟨w.heap.size + 1, 2, none⟩ = some (.int .i64 g) ∧ w'.cell? ⟨w.heap.size + 1, 3, none⟩ = some (.int .i64 h))
    (first | (go_split_ands; refine ⟨keep_cell hb rfl ?_, keep_cell hb rfl ?_, keep_cell hb rfl ?_, keep_cell hb rfl ?_, keep_cell hb rfl ?_, keep_cell hb rfl ?_, keep_cell hb rfl ?_, keep_cell hb rfl ?_⟩ <;> assumption) | (refine ⟨?_, ?_, ?_, ?_, ?_, ?_, ?_, ?_⟩ <;> go_simp))
    (first | (go_at_call 30; refine (boxTo_any _ _ _ _ _ (by omega) (by omega) (by omega) (by omega)).mono ?_; rintro e w1 ⟨rfl, hb⟩) | (go_at_call 31; refine (rectIn_any _ _ _ _ _ _ _ _ _).mono ?_; rintro e w1 ⟨rfl, hb⟩))
  go_wp2
  go_ret
  exact ⟨rfl, by repeat (first | with_reducible exact Below.refl _ _ | with_reducible apply Below.drew | with_reducible apply bel_alloc | (with_reducible refine bel_trans ?_ (by assumption)))⟩
end Go.Proofs.Ytjpnobmgcgeofaa.Inside
