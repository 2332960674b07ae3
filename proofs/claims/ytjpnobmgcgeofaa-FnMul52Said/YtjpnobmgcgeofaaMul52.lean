/- Contracts: the product of two numbers of 64 bits in two words, and the product of two numbers of 12 bits behind the point. (For numbers of 32 bits.) -/
import Derived.Test.YtjpnobmgcgeofaaDown
import Derived.Test.YtjpnobmgcgeofaaRows
import Derived.WalkKit
import Derived.ProofKit
import Derived.OpenShut
import Derived.Lib.Hide
namespace Go.Proofs.Ytjpnobmgcgeofaa.Mul52
open Go.ChangeShapes Go.WideShapes Go.ChangeAt Go.RowKit
theorem and32_i64 (x : Int) : bits .and .i64 x 4294967295 = x % 4294967296 := by
  show IntKind.i64.wrap ((BitVec.ofInt 64 x &&& BitVec.ofInt 64 4294967295).toNat : Int) = _
  rw [BitVec.toNat_and, show (BitVec.ofInt 64 4294967295).toNat = 2 ^ 32 - 1 by decide, Nat.and_two_pow_sub_one_eq_mod, BitVec.toNat_ofInt, IntKind.wrap_i64]
  omega
theorem and32_u64 (x : Int) : bits .and .u64 x 4294967295 = x % 4294967296 := by
  show IntKind.u64.wrap ((BitVec.ofInt 64 x &&& BitVec.ofInt 64 4294967295).toNat : Int) = _
  rw [BitVec.toNat_and, show (BitVec.ofInt 64 4294967295).toNat = 2 ^ 32 - 1 by decide, Nat.and_two_pow_sub_one_eq_mod, BitVec.toNat_ofInt, IntKind.wrap_u64]
  omega
theorem and1_u64 (x : Int) : bits .and .u64 x 1 = x % 2 := by
  show IntKind.u64.wrap ((BitVec.ofInt 64 x &&& BitVec.ofInt 64 1).toNat : Int) = _
  rw [BitVec.toNat_and, show (BitVec.ofInt 64 1).toNat = 2 ^ 1 - 1 by decide, Nat.and_two_pow_sub_one_eq_mod, BitVec.toNat_ofInt, IntKind.wrap_u64]
  omega
/-- the word above: the sign of the product -/
def hiOf (p : Int) : Int := if 0 ≤ p then 0 else 18446744073709551615
theorem lo_ (u v p : Int) (h : u * v = p) : IntKind.u64.wrap (IntKind.u64.wrap u * IntKind.u64.wrap v) = p % 18446744073709551616 := by
  rw [IntKind.wrap_u64, IntKind.wrap_u64, IntKind.wrap_u64, ← Int.mul_emod, h]
theorem hi_pp (p : Int) (hp : 0 ≤ p ∧ p ≤ 4611686018427387904) : p / 4294967296 / 4294967296 + p / 4294967296 % 4294967296 / 4294967296 = hiOf p := by
  simp only [hiOf]
  rw [if_pos hp.1]
  omega
theorem hi_pn (u p : Int) (hu : 0 ≤ u ∧ u ≤ 2147483647) (hp : -4611686018427387904 ≤ p ∧ p ≤ 0) (h1 : -2147483648 * u ≤ p) :
    IntKind.u64.wrap (IntKind.u64.wrap (IntKind.u64.wrap (wrap64 (IntKind.u64.wrap (IntKind.u64.wrap (p + 4294967296 * u) / 4294967296)) / 4294967296)) +
      IntKind.u64.wrap (wrap64 (IntKind.u64.wrap (IntKind.u64.wrap (IntKind.u64.wrap (p + 4294967296 * u) / 4294967296) % 4294967296 + IntKind.u64.wrap (u * IntKind.u64.wrap (-1)))) / 4294967296)) = hiOf p := by
  have e0 : IntKind.u64.wrap (p + 4294967296 * u) = p + 4294967296 * u := by rw [IntKind.wrap_u64]; omega
  have e1 : IntKind.u64.wrap ((p + 4294967296 * u) / 4294967296) = p / 4294967296 + u := by rw [IntKind.wrap_u64]; omega
  rw [e0, e1]
  have e2 : IntKind.u64.wrap (-1) = 18446744073709551615 := by decide
  have e3 : IntKind.u64.wrap (u * 18446744073709551615) = (-u) % 18446744073709551616 := by rw [IntKind.wrap_u64]; omega
  rw [e2, e3]
  simp only [IntKind.wrap_u64, wrap64, hiOf]
  split <;> omega
theorem hi_np (v p : Int) (hv : 0 ≤ v ∧ v ≤ 2147483647) (hp : -4611686018427387904 ≤ p ∧ p ≤ 0) (h1 : -2147483648 * v ≤ p) :
    IntKind.u64.wrap (IntKind.u64.wrap (IntKind.u64.wrap (wrap64 (IntKind.u64.wrap (IntKind.u64.wrap (IntKind.u64.wrap (-1) * v) + IntKind.u64.wrap (p + 4294967296 * v) / 4294967296)) / 4294967296)) +
      IntKind.u64.wrap (IntKind.u64.wrap (IntKind.u64.wrap (-1) * v) + IntKind.u64.wrap (p + 4294967296 * v) / 4294967296) % 4294967296 / 4294967296) = hiOf p := by
  have e0 : IntKind.u64.wrap (p + 4294967296 * v) = p + 4294967296 * v := by rw [IntKind.wrap_u64]; omega
  have e2 : IntKind.u64.wrap (-1) = 18446744073709551615 := by decide
  have e3 : IntKind.u64.wrap (18446744073709551615 * v) = (-v) % 18446744073709551616 := by rw [IntKind.wrap_u64]; omega
  have e4 : IntKind.u64.wrap ((-v) % 18446744073709551616 + (p + 4294967296 * v) / 4294967296) = (p / 4294967296) % 18446744073709551616 := by rw [IntKind.wrap_u64]; omega
  rw [e2, e3, e0, e4]
  simp only [IntKind.wrap_u64, wrap64, hiOf]
  split <;> omega
theorem hi_nn (u v p : Int) (hu : -2147483648 ≤ u ∧ u < 0) (hv : -2147483648 ≤ v ∧ v < 0) (hp : 0 ≤ p ∧ p ≤ 4611686018427387904) (h1 : p ≤ -2147483648 * u) :
    IntKind.u64.wrap (IntKind.u64.wrap (IntKind.u64.wrap (IntKind.u64.wrap (-1) * IntKind.u64.wrap (-1)) + IntKind.u64.wrap (wrap64 (IntKind.u64.wrap (IntKind.u64.wrap (IntKind.u64.wrap (-1) * (v + 4294967296)) + IntKind.u64.wrap (p + 4294967296 * u + 4294967296 * v + 18446744073709551616) / 4294967296)) / 4294967296)) +
      IntKind.u64.wrap (wrap64 (IntKind.u64.wrap (IntKind.u64.wrap (IntKind.u64.wrap (IntKind.u64.wrap (-1) * (v + 4294967296)) + IntKind.u64.wrap (p + 4294967296 * u + 4294967296 * v + 18446744073709551616) / 4294967296) % 4294967296 + IntKind.u64.wrap ((u + 4294967296) * IntKind.u64.wrap (-1)))) / 4294967296)) = hiOf p := by
  have e0 : IntKind.u64.wrap (p + 4294967296 * u + 4294967296 * v + 18446744073709551616) = p + 4294967296 * u + 4294967296 * v + 18446744073709551616 := by rw [IntKind.wrap_u64]; omega
  have e2 : IntKind.u64.wrap (-1) = 18446744073709551615 := by decide
  have e3 : IntKind.u64.wrap (18446744073709551615 * (v + 4294967296)) = (-(v + 4294967296)) % 18446744073709551616 := by rw [IntKind.wrap_u64]; omega
  have e5 : IntKind.u64.wrap ((u + 4294967296) * 18446744073709551615) = (-(u + 4294967296)) % 18446744073709551616 := by rw [IntKind.wrap_u64]; omega
  have e6 : IntKind.u64.wrap (18446744073709551615 * 18446744073709551615) = 1 := by decide
  have e4 : IntKind.u64.wrap ((-(v + 4294967296)) % 18446744073709551616 + (p + 4294967296 * u + 4294967296 * v + 18446744073709551616) / 4294967296) = (p / 4294967296 + u) % 18446744073709551616 := by rw [IntKind.wrap_u64]; omega
  rw [e2, e3, e5, e6, e0, e4]
  have hq : p / 4294967296 ≤ 1073741824 ∧ 0 ≤ p / 4294967296 := by omega
  generalize p / 4294967296 = q at *
  simp only [IntKind.wrap_u64, wrap64, hiOf]
  rw [if_pos hp.1]
  by_cases ht : 0 ≤ q + u
  · have r : (q + u) % 18446744073709551616 = q + u := by omega
    rw [r]
    omega
  · have r : (q + u) % 18446744073709551616 = q + u + 18446744073709551616 := by omega
    rw [r]
    omega
theorem ret_pair {a b c d : Int} (h : a = b) (k : c = d) : Ending.returned (.tuple #[.int .u64 a, .int .u64 c]) = .returned (.tuple #[.int .u64 b, .int .u64 d]) := by rw [h, k]

theorem muli_pp (u v p : Int) (w : World) (hu : 0 ≤ u ∧ u ≤ 2147483647) (hv : 0 ≤ v ∧ v ≤ 2147483647) (hp : u * v = p) (hpb : 0 ≤ p ∧ p ≤ 4611686018427387904) :
    Calls Try.prog 41 #[.int .i64 u, .int .i64 v] w fun e w' => e = .returned (.tuple #[.int .u64 (p % 18446744073709551616), .int .u64 (hiOf p)]) ∧ w = w' := by
  have A := and32_u64
  have z1 : u / 4294967296 = 0 := by omega
  have z2 : v / 4294967296 = 0 := by omega
  have k1 : bits .and .i64 u 4294967295 = u := by rw [and32_i64]; omega
  have k2 : bits .and .i64 v 4294967295 = v := by rw [and32_i64]; omega
  go_enter Try.func41, Try.ntmps41
  go_wp2
  go_ret2
  exact ⟨ret_pair (by omega) (hi_pp p hpb), rfl⟩
theorem muli_pn (u v p : Int) (w : World) (hu : 0 ≤ u ∧ u ≤ 2147483647) (hv : -2147483648 ≤ v ∧ v < 0) (hp : u * v = p) (hpb : -4611686018427387904 ≤ p ∧ p ≤ 0) :
    Calls Try.prog 41 #[.int .i64 u, .int .i64 v] w fun e w' => e = .returned (.tuple #[.int .u64 (p % 18446744073709551616), .int .u64 (hiOf p)]) ∧ w = w' := by
  have A := and32_u64
  have z1 : u / 4294967296 = 0 := by omega
  have z2 : v / 4294967296 = -1 := by omega
  have k1 : bits .and .i64 u 4294967295 = u := by rw [and32_i64]; omega
  have k2 : bits .and .i64 v 4294967295 = v + 4294967296 := by rw [and32_i64]; omega
  have d1 : u * (v + 4294967296) = p + 4294967296 * u := by rw [Int.mul_add, hp]; omega
  go_enter Try.func41, Try.ntmps41
  go_wp2
  go_ret2
  exact ⟨ret_pair (by rw [← lo_ u v p hp, IntWalk.u64_in u (by omega)]) (hi_pn u p hu hpb (by rw [← hp, Int.mul_comm]; exact Int.mul_le_mul_of_nonneg_left hv.1 hu.1)), rfl⟩
theorem muli_np (u v p : Int) (w : World) (hu : -2147483648 ≤ u ∧ u < 0) (hv : 0 ≤ v ∧ v ≤ 2147483647) (hp : u * v = p) (hpb : -4611686018427387904 ≤ p ∧ p ≤ 0) :
    Calls Try.prog 41 #[.int .i64 u, .int .i64 v] w fun e w' => e = .returned (.tuple #[.int .u64 (p % 18446744073709551616), .int .u64 (hiOf p)]) ∧ w = w' := by
  have A := and32_u64
  have z1 : u / 4294967296 = -1 := by omega
  have z2 : v / 4294967296 = 0 := by omega
  have k1 : bits .and .i64 u 4294967295 = u + 4294967296 := by rw [and32_i64]; omega
  have k2 : bits .and .i64 v 4294967295 = v := by rw [and32_i64]; omega
  have d1 : (u + 4294967296) * v = p + 4294967296 * v := by rw [Int.add_mul, hp]
  go_enter Try.func41, Try.ntmps41
  go_wp2
  go_ret2
  exact ⟨ret_pair (by rw [← lo_ u v p hp, IntWalk.u64_in v (by omega)]) (hi_np v p hv hpb (by rw [← hp]; exact Int.mul_le_mul_of_nonneg_right hu.1 hv.1)), rfl⟩
theorem muli_nn (u v p : Int) (w : World) (hu : -2147483648 ≤ u ∧ u < 0) (hv : -2147483648 ≤ v ∧ v < 0) (hp : u * v = p) (hpb : 0 ≤ p ∧ p ≤ 4611686018427387904) :
    Calls Try.prog 41 #[.int .i64 u, .int .i64 v] w fun e w' => e = .returned (.tuple #[.int .u64 (p % 18446744073709551616), .int .u64 (hiOf p)]) ∧ w = w' := by
  have A := and32_u64
  have z1 : u / 4294967296 = -1 := by omega
  have z2 : v / 4294967296 = -1 := by omega
  have k1 : bits .and .i64 u 4294967295 = u + 4294967296 := by rw [and32_i64]; omega
  have k2 : bits .and .i64 v 4294967295 = v + 4294967296 := by rw [and32_i64]; omega
  have d1 : (u + 4294967296) * (v + 4294967296) = p + 4294967296 * u + 4294967296 * v + 18446744073709551616 := by rw [Int.mul_add, Int.add_mul, hp]; omega
  go_enter Try.func41, Try.ntmps41
  go_wp2
  go_ret2
  exact ⟨ret_pair (lo_ u v p hp) (hi_nn u v p hu hv hpb (by rw [← hp, Int.mul_comm u v]; exact Int.mul_le_mul_of_nonpos_right hv.1 (by omega))), rfl⟩
theorem muli_any (u v p : Int) (w : World) (hu : -2147483648 ≤ u ∧ u ≤ 2147483647) (hv : -2147483648 ≤ v ∧ v ≤ 2147483647) (hp : u * v = p) (hpb : -4611686018427387904 ≤ p ∧ p ≤ 4611686018427387904) :
    Calls Try.prog 41 #[.int .i64 u, .int .i64 v] w fun e w' => e = .returned (.tuple #[.int .u64 (p % 18446744073709551616), .int .u64 (hiOf p)]) ∧ w = w' := by
  by_cases su : 0 ≤ u
  · by_cases sv : 0 ≤ v
    · have h : 0 ≤ p := by rw [← hp]; exact Int.mul_nonneg su sv
      exact muli_pp u v p w (by omega) (by omega) hp (by omega)
    · have h : p ≤ 0 := by rw [← hp]; exact Int.mul_nonpos_of_nonneg_of_nonpos su (by omega)
      exact muli_pn u v p w (by omega) (by omega) hp (by omega)
  · by_cases sv : 0 ≤ v
    · have h : p ≤ 0 := by rw [← hp]; exact Int.mul_nonpos_of_nonpos_of_nonneg (by omega) sv
      exact muli_np u v p w (by omega) (by omega) hp (by omega)
    · have h : 0 ≤ p := by rw [← hp]; exact Int.mul_nonneg_of_nonpos_of_nonpos (by omega) (by omega)
      exact muli_nn u v p w (by omega) (by omega) hp (by omega)

theorem or52 (x y : Int) (hx : 0 ≤ x ∧ x % 4503599627370496 = 0 ∧ x < 18446744073709551616) (hy : 0 ≤ y ∧ y < 4503599627370496) : bits .or .u64 x y = x + y := by
  have e52 : (2 : Int) ^ 52 = 4503599627370496 := by decide
  have e64 : (2 : Int) ^ 64 = 18446744073709551616 := by decide
  refine bits_join .u64 64 (by decide) (fun n a b => ?_) 52 x y hx.1 (by rw [e52]; exact hx.2.1) (by rw [e64]; exact hx.2.2) hy.1 (by rw [e52]; exact hy.2) (by rw [e64]; omega)
  rw [e64] at b
  rw [IntKind.wrap_u64]
  omega
theorem fin_p (p : Int) (hp : 0 ≤ p ∧ p ≤ 4611686018427387904) : wrap64 (wrap64 (bits BinOp.or IntKind.u64 0 (p / 4096)) + p / 2048 % 2) = (p + 2048) / 4096 := by
  rw [or52 _ _ (by omega) (by omega)]
  simp only [wrap64]
  omega
theorem fin_n (p : Int) (hp : -4611686018427387904 ≤ p ∧ p < 0) :
    wrap64 (wrap64 (bits BinOp.or IntKind.u64 (IntKind.u64.wrap 83076749736557242051984341640151040) ((p + 18446744073709551616) / 4096)) + (p + 18446744073709551616) / 2048 % 2) = (p + 2048) / 4096 := by
  have e : IntKind.u64.wrap 83076749736557242051984341640151040 = 18442240474082181120 := by decide
  rw [e, or52 _ _ (by omega) (by omega)]
  simp only [wrap64]
  omega
theorem mul52_any (u v p : Int) (w : World) (hu : -2147483648 ≤ u ∧ u ≤ 2147483647) (hv : -2147483648 ≤ v ∧ v ≤ 2147483647) (hp : u * v = p) (hpb : -4611686018427387904 ≤ p ∧ p ≤ 4611686018427387904) :
    Calls Try.prog 33 #[.int .i64 u, .int .i64 v] w fun e w' => e = .returned (.int .i64 ((p + 2048) / 4096)) ∧ w = w' := by
  have A := and1_u64
  by_cases s : 0 ≤ p
  · have h1 : hiOf p = 0 := if_pos s
    have h2 : p % 18446744073709551616 = p := by omega
    go_enter Try.func33, Try.ntmps33
    go_wp2_with (go_at_call 41; refine (muli_any _ _ p _ hu hv hp hpb).mono ?_; rintro e w' ⟨rfl, rfl⟩)
    go_ret
    exact ⟨Nums.ret_int (fin_p p (by omega)), rfl⟩
  · have h1 : hiOf p = 18446744073709551615 := if_neg s
    have h2 : p % 18446744073709551616 = p + 18446744073709551616 := by omega
    go_enter Try.func33, Try.ntmps33
    go_wp2_with (go_at_call 41; refine (muli_any _ _ p _ hu hv hp hpb).mono ?_; rintro e w' ⟨rfl, rfl⟩)
    go_ret
    exact ⟨Nums.ret_int (fin_n p (by omega)), rfl⟩
end Go.Proofs.Ytjpnobmgcgeofaa.Mul52
