/- Figures of numbers: the reference's way of writing them against decimal numerals, filled up with noughts. No program in sight. -/
import Derived.WalkKit
import Derived.Lib.ItoaNum
import Derived.Laws.Concat
namespace Go.Proofs.YtonejfjhddgabaaDoor.TextP
open Go.Lib

/-- a number's figures, at least so many -/
def pad (n least : Nat) : List UInt8 :=
  if _h : 0 < n ∨ 0 < least then pad (n / 10) (least - 1) ++ [UInt8.ofNat (48 + n % 10)] else []
termination_by n + least
decreasing_by omega
theorem pad_step (n least : Nat) (h : 0 < n ∨ 0 < least) : pad n least = pad (n / 10) (least - 1) ++ [UInt8.ofNat (48 + n % 10)] := by rw [pad, dif_pos h]
theorem pad_end : pad 0 0 = [] := by rw [pad, dif_neg (by omega)]
theorem pad_len : ∀ (k n l : Nat), n < 10 ^ k → l ≤ k → (pad n l).length ≤ k
  | 0, n, l, hn, hl => by
    have h1 : n = 0 := by simpa using hn
    have h2 : l = 0 := by omega
    subst h1 h2
    rw [pad_end]
    exact Nat.le_refl _
  | k + 1, n, l, hn, hl => by
    by_cases h : 0 < n ∨ 0 < l
    · rw [pad_step n l h, List.length_append, List.length_singleton]
      have := pad_len k (n / 10) (l - 1) (by rw [Nat.pow_succ] at hn; omega) (by omega)
      omega
    · have h1 : n = 0 := by omega
      have h2 : l = 0 := by omega
      subst h1 h2
      rw [pad_end]
      simp
theorem dec_step (n : Nat) (h : 10 ≤ n) : decDigits n = decDigits (n / 10) ++ [UInt8.ofNat (48 + n % 10)] := by rw [decDigits, dif_neg (by omega)]
theorem pad_zero : ∀ l : Nat, pad 0 l = List.replicate l 48
  | 0 => pad_end
  | l + 1 => by
    rw [pad_step 0 (l + 1) (by omega)]
    have e : l + 1 - 1 = l := rfl
    rw [e, Nat.zero_div, pad_zero l]
    exact (List.replicate_succ').symm
/-- figures, filled up with noughts ahead -/
def fill (k : Nat) (s : List UInt8) : List UInt8 := List.replicate (k - s.length) 48 ++ s
theorem dec_pos (n : Nat) : 1 ≤ (decDigits n).length := by
  by_cases h : n < 10
  · rw [decDigits_one h]; simp
  · rw [dec_step n (by omega)]; simp
theorem pad_eq : ∀ (m n l : Nat), n ≤ m → 1 ≤ l → pad n l = fill l (decDigits n)
  | m, n, l, hm, hl => by
    by_cases h : n < 10
    · rw [pad_step n l (by omega), show n / 10 = 0 by omega, pad_zero, decDigits_one h, fill, show n % 10 = n by omega]
      rfl
    · match m with
      | 0 => omega
      | m + 1 =>
        rw [pad_step n l (by omega), dec_step n (by omega), fill, List.length_append, List.length_singleton]
        by_cases h1 : l = 1
        · subst h1
          have h2 : pad (n / 10) 0 = pad (n / 10) 1 := by
            rw [pad_step (n / 10) 0 (by omega), pad_step (n / 10) 1 (by omega)]
          rw [show 1 - 1 = 0 from rfl, h2, pad_eq m (n / 10) 1 (by omega) (by omega), fill]
          have := dec_pos (n / 10)
          rw [show 1 - (decDigits (n / 10)).length = 0 by omega, show 1 - ((decDigits (n / 10)).length + 1) = 0 by omega, List.append_assoc]
        · rw [pad_eq m (n / 10) (l - 1) (by omega) (by omega), fill, show l - 1 - (decDigits (n / 10)).length = l - ((decDigits (n / 10)).length + 1) by omega, List.append_assoc]
theorem pad_one (n : Nat) : pad n 1 = decDigits n := by
  rw [pad_eq n n 1 (Nat.le_refl _) (Nat.le_refl _), fill]
  have := dec_pos n
  rw [show 1 - (decDigits n).length = 0 by omega]
  rfl
theorem itoa_nat (n : Nat) : itoa (n : Int) = decDigits n := by
  rw [itoa, if_neg (by omega), Int.toNat_natCast]
theorem dec_len (k n : Nat) (h : n < 10 ^ k) (hk : 1 ≤ k) : (decDigits n).length ≤ k := by
  rw [← pad_one]; exact pad_len k n 1 h hk
theorem enc_digit (d : Nat) (h : d < 10) : Utf8.encode (48 + (d : Int)) = ⟨[UInt8.ofNat (48 + d)].toArray⟩ := by
  have hv : (48 + (d : Int)).toNat = 48 + d := by omega
  match d, h with
  | 0, _ | 1, _ | 2, _ | 3, _ | 4, _ | 5, _ | 6, _ | 7, _ | 8, _ | 9, _ => rfl
end Go.Proofs.YtonejfjhddgabaaDoor.TextP
