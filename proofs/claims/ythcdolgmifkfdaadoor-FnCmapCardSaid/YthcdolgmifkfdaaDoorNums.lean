/- Facts on whole numbers: Go's division cut towards zero against the division that goes down. No program in sight. -/
import Derived.WalkKit
namespace Go.Proofs.YthcdolgmifkfdaaDoor.Nums

theorem tdiv_lo (x n : Int) (hn : 1 ≤ n) (h : x.tmod n < 0) : x.tdiv n - 1 = x / n := by
  have e := Int.tmod_add_mul_tdiv x n
  have l : -n < x.tmod n := by
    have := Int.lt_tmod_of_pos x (b := n) (by omega)
    omega
  symm
  rw [Int.ediv_eq_iff_of_pos (by omega)]
  rw [Int.sub_mul, Int.mul_comm (x.tdiv n) n]
  omega
theorem tdiv_hi (x n : Int) (hn : 1 ≤ n) (h : 0 ≤ x.tmod n) : x.tdiv n = x / n := by
  have e := Int.tmod_add_mul_tdiv x n
  have l : x.tmod n < n := Int.tmod_lt_of_pos x (by omega)
  symm
  rw [Int.ediv_eq_iff_of_pos (by omega)]
  rw [Int.mul_comm (x.tdiv n) n]
  omega
theorem ediv_bd (x n : Int) (hn : 1 ≤ n) (b : Int) (h0 : 0 ≤ b) (hx : -b ≤ x) (hx2 : x ≤ b) : -b ≤ x / n ∧ x / n ≤ b := by
  constructor
  · rw [Int.le_ediv_iff_mul_le (by omega)]
    have : b * 1 ≤ b * n := Int.mul_le_mul_of_nonneg_left hn h0
    rw [Int.neg_mul]
    omega
  · have h1 : x / n ≤ b / n := Int.ediv_le_ediv (by omega) hx2
    have h2 : b / n ≤ b := Int.ediv_le_self _ h0
    omega
theorem mul_bd (x y : Int) (a b : Nat) (hx : -(a : Int) ≤ x ∧ x ≤ a) (hy : -(b : Int) ≤ y ∧ y ≤ b) : -((a * b : Nat) : Int) ≤ x * y ∧ x * y ≤ ((a * b : Nat) : Int) := by
  have h : (x * y).natAbs ≤ a * b := by rw [Int.natAbs_mul]; exact Nat.mul_le_mul (by omega) (by omega)
  omega
theorem tdiv_bd (x n b : Int) (hx : -b ≤ x) (hx2 : x ≤ b) : -b ≤ x.tdiv n ∧ x.tdiv n ≤ b := by
  have h : (x.tdiv n).natAbs ≤ x.natAbs := by rw [Int.natAbs_tdiv]; exact Nat.div_le_self _ _
  omega
theorem tdiv_lit (x n b c : Int) (hn : 1 ≤ n) (hx : -b ≤ x ∧ x ≤ b) (hc : b ≤ n * c) : -c ≤ x.tdiv n ∧ x.tdiv n ≤ c := by
  have e := Int.tmod_add_mul_tdiv x n
  have l1 := Int.lt_tmod_of_pos x (b := n) (by omega)
  have l2 := Int.tmod_lt_of_pos x (b := n) (by omega)
  constructor
  · apply Int.not_lt.1
    intro h
    have h2 : n * x.tdiv n ≤ n * (-c - 1) := Int.mul_le_mul_of_nonneg_left (by omega) (by omega)
    rw [Int.mul_sub, Int.mul_neg] at h2
    omega
  · apply Int.not_lt.1
    intro h
    have h2 : n * (c + 1) ≤ n * x.tdiv n := Int.mul_le_mul_of_nonneg_left (by omega) (by omega)
    rw [Int.mul_add] at h2
    omega
theorem ret_int {k : IntKind} {a b : Int} (h : a = b) : Ending.returned (.int k a) = .returned (.int k b) := by rw [h]
theorem ret_bool {a b : Bool} (h : a = b) : Ending.returned (.bool a) = .returned (.bool b) := by rw [h]
end Go.Proofs.YthcdolgmifkfdaaDoor.Nums
