/- Contracts of the writing of numbers as texts: the reference's figures, the package's text and its numbers' texts, the thin package over them. -/
import Derived.Test.YtonejfjhddgabaaDoorTextP
import Derived.Test.YtonejfjhddgabaaDoorNums
import Derived.Test.YtonejfjhddgabaaDoorShelf
import Derived.Test.YtonejfjhddgabaaDoorRows
import Derived.WalkKit
import Derived.WalkSmall
import Derived.ProofKit
import Derived.OpenShut
import Derived.Below
import Derived.Lib.Hide
import Derived.Deep.RegionHeld3
import Derived.Outline
namespace Go.Proofs.YtonejfjhddgabaaDoor.TextW
open Go.ChangeShapes Go.WideShapes Go.ChangeAt Go.RowKit
open TextP

def str (l : List UInt8) : Value := .string ⟨l.toArray⟩
theorem below_grown (w : World) (k : Nat) (os : Array Obj) : Below w.heap.size w (Sort.grow (w.drewN k) os) :=
  ⟨rfl, rfl, rfl, by simp [Sort.grow], fun i hi => by simp [Sort.grow, Array.getElem?_append_left hi]⟩
def Tab (w : World) : Prop := Lib.TabIs Tryd.prog w "internal/strconv.uint64pow10" .u64 Lib.pow10Tab
theorem Tab.keep {w w' : World} (h : Tab w) (hb : Below w.heap.size w w') : Tab w' := by
  have hg : Tryd.prog.globalNamed "internal/strconv.uint64pow10" = some 0 := by kernel_rfl
  have hc := Lib.TabIs.cell h hg 0 (by decide)
  exact var?_below hb hg (World.block_lt_of_cell? w _ hc) h
theorem fmt_any (n : Int) (h0 : 0 ≤ n) (hn : n ≤ 4611686018427387904) (w : World) (h : Tab w) :
    Calls Tryd.prog 12 #[.int .i64 n, .int .i64 10] w fun e w' => e = .returned (str (Lib.decDigits n.toNat)) ∧ Below w.heap.size w w' := by
  refine (Tryd.strconv_FormatInt_10 n (by omega) (by omega) w h).mono ?_
  rintro e w' ⟨rfl, k, os, rfl⟩
  refine ⟨?_, below_grown w k os⟩
  have := itoa_nat n.toNat
  rw [Int.toNat_of_nonneg h0] at this
  rw [this]
  rfl
theorem dec20 (n : Int) (h0 : 0 ≤ n) (hn : n ≤ 4611686018427387904) : (Lib.decDigits n.toNat).length ≤ 20 := dec_len 20 n.toNat (by omega) (by omega)

set_option maxHeartbeats 800000 in
theorem num_any (n l : Int) (hn0 : 0 ≤ n) (hn : n ≤ 4611686018427387904) (hl0 : 0 ≤ l) (hl : l ≤ 20) (w : World) :
    Calls Tryd.prog 9 #[.int .i64 n, .int .i64 l] w fun e w' => e = .returned (str (pad n.toNat l.toNat)) ∧ w = w' := by
  have HP := Lib.hid (pad_len 20 n.toNat l.toNat (by omega) (by omega))
  obtain ⟨F, hF⟩ : ∃ F, F = pad n.toNat l.toNat := ⟨_, rfl⟩
  rw [← hF] at HP ⊢
  have HF := Lib.hid hF
  clear hF
  unfold str
  go_enter Tryd.func9, Tryd.ntmps9
  go_wp2
  go_loop [0, 1, 5] (fun nn ll s => ∃ (a : Int) (m : Int) (acc : List UInt8), nn = .int .i64 a ∧ ll = .int .i64 m ∧ s = .string ⟨acc.toArray⟩ ∧ F = pad a.toNat m.toNat ++ acc ∧ (0 ≤ a ∧ a ≤ n) ∧ m + (acc.length : Int) = l) (fun nn ll _ => (intOf nn).toNat + (intOf ll).toNat)
  case atStart => exact ⟨n, l, [], rfl, rfl, rfl, by rw [HF.out, List.append_nil], ⟨hn0, Int.le_refl _⟩, by simp⟩
  case round =>
    obtain ⟨a, m, acc, rfl, rfl, rfl, hE, ⟨ha0, ha⟩, hm⟩ := hrel
    have hal : acc.length ≤ 20 := by
      have := HP.out
      rw [hE, List.length_append] at this
      omega
    have HE := Lib.hid hE
    have HM := Lib.hid hm
    have hm2 : -20 ≤ m ∧ m ≤ 20 := by omega
    obtain ⟨hm3, hm4⟩ := hm2
    have HAL := Lib.hid hal
    have HAN := Lib.hid ha
    have ha2 : a ≤ 4611686018427387904 := by omega
    have g1 : (0 : Int) < a ∨ (a = 0 ∧ (0 : Int) < m) ∨ (a = 0 ∧ ¬ ((0 : Int) < m)) := by omega
    clear hE hm hal ha
    rcases g1 with g2 | ⟨rfl, g3⟩ | ⟨rfl, g3⟩
    · obtain ⟨d, hd⟩ : ∃ d : Nat, a % 10 = (d : Int) := ⟨(a % 10).toNat, by omega⟩
      have hd10 : d < 10 := by omega
      have hE2 : F = pad (a / 10).toNat (m - 1).toNat ++ ([UInt8.ofNat (48 + d)] ++ acc) := by
        have e1 : d = a.toNat % 10 := by omega
        have e2 : (a / 10).toNat = a.toNat / 10 := by omega
        have e3 : (m - 1).toNat = m.toNat - 1 := by omega
        rw [HE.out, pad_step a.toNat m.toNat (by omega), e1, e2, e3, List.append_assoc]
      have enc := enc_digit d hd10
      obtain ⟨c, hc⟩ : ∃ c : UInt8, c = UInt8.ofNat (48 + d) := ⟨_, rfl⟩
      rw [← hc] at enc hE2
      have hadd := fun w : World => run_string_add_lists (P := Tryd.prog) w [c] acc (by simp) (by have := HAL.out; omega)
      have w5 : IntKind.i32.wrap (48 + (d : Int)) = 48 + (d : Int) := IntWalk.i32_in _ (by omega)
      have HE2 := Lib.hid hE2
      have HB := Lib.hid (show (0 ≤ a / 10 ∧ a / 10 ≤ n) ∧ a / 10 < a from by have := HAN.out; omega)
      clear hE2 hd10 hc
      go_wp2
      refine ⟨⟨a / 10, m - 1, c :: acc, rfl, rfl, rfl, HE2.out, HB.out.1, by rw [List.length_cons, ← HM.out]; omega⟩, ?_⟩
      have := HB.out
      simp [intOf]
      omega
    · have hE2 : F = pad 0 (m - 1).toNat ++ ([48] ++ acc) := by
        have e3 : (m - 1).toNat = m.toNat - 1 := by omega
        rw [HE.out, show (0 : Int).toNat = 0 from rfl, pad_step 0 m.toNat (by omega), e3, List.append_assoc]
        rfl
      have enc : Utf8.encode 48 = ⟨[48].toArray⟩ := rfl
      have hadd := fun w : World => run_string_add_lists (P := Tryd.prog) w [48] acc (by simp) (by have := HAL.out; omega)
      have HE2 := Lib.hid hE2
      clear hE2
      go_wp2
      refine ⟨⟨0, m - 1, 48 :: acc, rfl, rfl, rfl, HE2.out, ⟨Int.le_refl _, hn0⟩, by rw [List.length_cons, ← HM.out]; omega⟩, ?_⟩
      simp [intOf]
      omega
    · have hF : F = acc := by
        have := HE.out
        rw [show m.toNat = 0 by omega, show (0 : Int).toNat = 0 from rfl, pad_end, List.nil_append] at this
        exact this
      have HFA := Lib.hid hF
      clear hF
      go_wp2
      go_ret
      exact ⟨by rw [HFA.out]; rfl, rfl⟩

set_option maxHeartbeats 800000 in
theorem text_any (a b : Int) (k : Nat) (ha0 : 0 ≤ a) (ha : a ≤ 4611686018427387904) (hb0 : 0 ≤ b) (hb : b ≤ 4611686018427387904) (hk : k ≤ 20) (w : World) (h : Tab w) :
    Calls Tryd.prog 11 #[.int .i64 a, .int .i64 b, .int .i64 (k : Int)] w
      fun e w' => e = .returned (str (Lib.decDigits a.toNat ++ [58] ++ fill k (Lib.decDigits b.toNat))) ∧ Below w.heap.size w w' := by
  have HFB := Lib.hid (fmt_any b hb0 hb w h)
  have HT := Lib.hid h
  have hla := dec20 a ha0 ha
  have hlb := dec20 b hb0 hb
  obtain ⟨DA, hDA⟩ : ∃ D, D = Lib.decDigits a.toNat := ⟨_, rfl⟩
  obtain ⟨DB, hDB⟩ : ∃ D, D = Lib.decDigits b.toNat := ⟨_, rfl⟩
  have HFA := Lib.hid (fun (w1 : World) (h1 : Tab w1) => fmt_any a ha0 ha w1 h1)
  rw [← hDA] at hla HFA ⊢
  rw [← hDB] at hlb HFB ⊢
  clear hDA hDB h
  unfold str at HFA HFB ⊢
  go_enter Tryd.func11, Tryd.ntmps11
  go_wp2_with fail
  refine HFB.out.mono ?_
  rintro e w1 ⟨rfl, hb1⟩
  have HT1 := Lib.hid (HT.out.keep hb1)
  have HB1 := Lib.hid hb1
  clear hb1
  go_wp2
  go_loop [7] (fun s => ∃ j : Nat, s = .string ⟨(List.replicate j 48 ++ DB).toArray⟩ ∧ j ≤ 20 ∧ (j = 0 ∨ j + DB.length ≤ k)) (fun s => k - (match s with | .string b => b.size | _ => 0))
  case atStart => exact ⟨0, rfl, by omega, .inl rfl⟩
  case round =>
    obtain ⟨j, rfl, hj, hjk⟩ := hrel
    obtain ⟨S, hS⟩ : ∃ S, S = List.replicate j (48 : UInt8) ++ DB := ⟨_, rfl⟩
    have hSl : S.length = j + DB.length := by rw [hS, List.length_append, List.length_replicate]
    have hS2 : S.length ≤ 40 := by omega
    have hsz : (⟨S.toArray⟩ : ByteArray).size = S.length := by simp [ByteArray.size]
    rw [← hS]
    by_cases hlt : S.length < k
    · have hS1 : List.replicate (j + 1) (48 : UInt8) ++ DB = 48 :: S := by rw [hS, List.replicate_succ]; rfl
      have hadd := fun w : World => run_string_add_lists (P := Tryd.prog) w [48] S (by simp) (by omega)
      have HS1 := Lib.hid hS1
      have HSL := Lib.hid hSl
      have q1 : (S.length : Int) < (k : Int) := by omega
      clear hS hS1 hSl hjk
      go_wp2
      refine ⟨⟨j + 1, by rw [HS1.out], by have := HSL.out; omega, .inr (by have := HSL.out; omega)⟩, ?_⟩
      simp [ByteArray.size]
      omega
    · have hfin : S = fill k DB := by
        rw [hS, fill]
        congr 2
        omega
      have HF := Lib.hid hfin
      have h1 := fun w : World => run_string_add_lists (P := Tryd.prog) w DA [58] (by omega) (by simp)
      have h2 := fun w : World => run_string_add_lists (P := Tryd.prog) w (DA ++ [58]) S (by simp; omega) (by omega)
      have HA := Lib.hid (HFA.out w1 HT1.out)
      have q1 : ¬ ((S.length : Int) < (k : Int)) := by omega
      clear hS hfin hSl hjk hlt
      go_wp2_with fail
      refine HA.out.mono ?_
      rintro e w2 ⟨rfl, hb2⟩
      have HB2 := Lib.hid (HB1.out.trans (hb2.mono HB1.out.size))
      clear hb2
      go_wp2
      go_ret
      exact ⟨by rw [← HF.out]; simp, HB2.out⟩

/-- a number's text: the whole ones, a colon, the parts -/
def said (d k : Int) (x : Int) : List UInt8 := Lib.decDigits (x / d).toNat ++ [58] ++ fill k.toNat (Lib.decDigits (x % d).toNat)
theorem said_pad (d k : Int) (x : Int) (hk : 1 ≤ k) : said d k x = pad (x / d).toNat 1 ++ [58] ++ pad (x % d).toNat k.toNat := by
  rw [said, pad_one, pad_eq (x % d).toNat (x % d).toNat k.toNat (Nat.le_refl _) (by omega)]
theorem and_i32 (x : Int) (h0 : 0 ≤ x) (h1 : x ≤ 1073741824) : bits .and .i32 x 63 = x % 64 := by
  have e : (2 : Int) ^ 31 = 2147483648 := by decide
  exact bits_mask .i32 31 (by decide) (fun n a b => IntWalk.i32_in _ (by omega)) 6 (by decide) x h0 (by omega)
theorem and6_i64 (x : Int) (h0 : 0 ≤ x) (h1 : x ≤ 4611686018427387904) : bits .and .i64 x 63 = x % 64 := by
  have e : (2 : Int) ^ 63 = 9223372036854775808 := by decide
  exact bits_mask .i64 63 (by decide) (fun n a b => IntWalk.i64_in _ (by omega)) 6 (by decide) x h0 (by omega)
theorem and12_i64 (x : Int) (h0 : 0 ≤ x) (h1 : x ≤ 4611686018427387904) : bits .and .i64 x 4095 = x % 4096 := by
  have e : (2 : Int) ^ 63 = 9223372036854775808 := by decide
  exact bits_mask .i64 63 (by decide) (fun n a b => IntWalk.i64_in _ (by omega)) 12 (by decide) x h0 (by omega)

theorem string26_pos (x : Int) (h0 : 0 ≤ x) (h1 : x ≤ 1073741824) (w : World) (h : Tab w) :
    Calls Tryd.prog 8 #[.int .i32 x] w fun e w' => e = .returned (str (said 64 2 x)) ∧ Below w.heap.size w w' := by
  have hc := text_any (x / 64) (x % 64) 2 (by omega) (by omega) (by omega) (by omega) (by omega) w h
  change Calls _ _ _ _ fun e w' => e = .returned (str (said 64 2 x)) ∧ _ at hc
  obtain ⟨S, hS⟩ : ∃ S, S = said 64 2 x := ⟨_, rfl⟩
  rw [← hS] at hc ⊢
  have HC := Lib.hid hc
  have e1 := and_i32 x h0 h1
  have w1 : IntKind.i32.wrap (x / 64) = x / 64 := IntWalk.i32_in _ (by omega)
  have w2 : IntKind.i64.wrap (x / 64) = x / 64 := IntWalk.i64_in _ (by omega)
  have w3 : IntKind.i64.wrap (x % 64) = x % 64 := IntWalk.i64_in _ (by omega)
  clear h hS hc
  go_enter Tryd.func8, Tryd.ntmps8
  go_wp2_with fail
  refine HC.out.mono ?_
  rintro e w1 ⟨rfl, hb⟩
  have HB := Lib.hid hb
  clear hb
  go_wp2
  go_ret
  exact ⟨rfl, HB.out⟩
theorem string26_neg (x : Int) (h0 : x < 0) (h1 : -1073741824 ≤ x) (w : World) (h : Tab w) :
    Calls Tryd.prog 8 #[.int .i32 x] w fun e w' => e = .returned (str (45 :: said 64 2 (-x))) ∧ Below w.heap.size w w' := by
  obtain ⟨y, hy⟩ : ∃ y, -x = y := ⟨_, rfl⟩
  have hy0 : 0 ≤ y := by omega
  have hy1 : y ≤ 1073741824 := by omega
  have hc := text_any (y / 64) (y % 64) 2 (by omega) (by omega) (by omega) (by omega) (by omega) w h
  have hl1 := dec20 (y / 64) (by omega) (by omega)
  have hl2 := dec20 (y % 64) (by omega) (by omega)
  rw [hy]
  obtain ⟨S, hS⟩ : ∃ S, S = said 64 2 y := ⟨_, rfl⟩
  have hSl : S.length ≤ 100 := by
    rw [hS]
    simp only [said, fill, List.length_append, List.length_replicate, List.length_singleton]
    have : (2 : Int).toNat = 2 := rfl
    omega
  change Calls _ _ _ _ fun e w' => e = .returned (str (said 64 2 y)) ∧ _ at hc
  rw [← hS] at hc ⊢
  have HC := Lib.hid hc
  have e1 := and_i32 y hy0 hy1
  have w1 : IntKind.i32.wrap (y / 64) = y / 64 := IntWalk.i32_in _ (by omega)
  have w2 : IntKind.i64.wrap (y / 64) = y / 64 := IntWalk.i64_in _ (by omega)
  have w3 : IntKind.i64.wrap (y % 64) = y % 64 := IntWalk.i64_in _ (by omega)
  have hadd := fun w : World => run_string_add_lists (P := Tryd.prog) w [45] S (by simp) (by omega)
  clear h hS hl1 hl2 hc
  unfold str at HC ⊢
  go_enter Tryd.func8, Tryd.ntmps8
  go_wp2_with fail
  refine HC.out.mono ?_
  rintro e w1 ⟨rfl, hb⟩
  have HB := Lib.hid hb
  clear hb
  go_wp2
  go_ret
  exact ⟨rfl, HB.out⟩

set_option maxHeartbeats 1600000 in
theorem law26_pos (x : Int) (h0 : 0 ≤ x) (h1 : x ≤ 1073741824) (w : World) :
    Calls Tryd.prog 6 #[.int .i64 x, .int .i64 6, .int .i64 2] w fun e w' => e = .returned (str (said 64 2 x)) ∧ Below w.heap.size w w' := by
  have hy0 := h0
  have hy1 : x ≤ 1073741824 := by omega
  have e1 := and6_i64 x hy0 (by omega)
  have n1 := num_any (x / 64) 1 (by omega) (by omega) (by omega) (by omega)
  have n2 := num_any (x % 64) 2 (by omega) (by omega) (by omega) (by omega)
  rw [said_pad 64 2 x (by omega)]
  have l1 := pad_len 20 (x / 64).toNat 1 (by omega) (by omega)
  have l2 := pad_len 20 (x % 64).toNat 2 (by omega) (by omega)
  obtain ⟨D1, hD1⟩ : ∃ D, D = pad (x / 64).toNat 1 := ⟨_, rfl⟩
  obtain ⟨D2, hD2⟩ : ∃ D, D = pad (x % 64).toNat (2 : Int).toNat := ⟨_, rfl⟩
  have l2' : D2.length ≤ 20 := by rw [hD2]; exact l2
  rw [show (1 : Int).toNat = 1 from rfl, ← hD1] at n1
  rw [← hD2] at n2 ⊢
  rw [← hD1] at l1 ⊢
  have N1 := Lib.hid n1
  have N2 := Lib.hid n2
  have a1 := fun w : World => run_string_add_lists (P := Tryd.prog) w ([] : List UInt8) D1 (by simp) (by omega)
  have a2 := fun w : World => run_string_add_lists (P := Tryd.prog) w D1 [58] (by omega) (by simp)
  have a3 := fun w : World => run_string_add_lists (P := Tryd.prog) w (D1 ++ [58]) D2 (by simp; omega) (by omega)
  clear n1 n2 hD1 hD2 l1 l2 l2'
  unfold str at N1 N2 ⊢
  have m1 : IntKind.i64.wrap 64 = 64 := IntWalk.i64_in _ (by omega)
  have m2 : IntKind.i64.wrap 63 = 63 := IntWalk.i64_in _ (by omega)
  have hx : ¬ (x < 0) := by omega
  go_enter Tryd.func6, Tryd.ntmps6
  go_wp2
  go_region_held3 (fun _ => True) (trivial) (first | (go_at_call 9; (with_reducible refine (N1.out _).mono ?_); rintro e w2 ⟨rfl, rfl⟩) | (go_at_call 9; (with_reducible refine (N2.out _).mono ?_); rintro e w2 ⟨rfl, rfl⟩))
  go_wp2
  go_ret
  exact ⟨by simp, by repeat (first | with_reducible exact Below.refl _ _ | with_reducible apply Below.drew)⟩

set_option maxHeartbeats 1600000 in
theorem law26_neg (x : Int) (h0 : x < 0) (h1 : -1073741824 ≤ x) (w : World) :
    Calls Tryd.prog 6 #[.int .i64 x, .int .i64 6, .int .i64 2] w fun e w' => e = .returned (str (45 :: said 64 2 (-x))) ∧ Below w.heap.size w w' := by
  obtain ⟨y, hy⟩ : ∃ y, -x = y := ⟨_, rfl⟩
  have hy0 : 0 ≤ y := by omega
  have hy1 : y ≤ 1073741824 := by omega
  have e1 := and6_i64 y hy0 (by omega)
  have n1 := num_any (y / 64) 1 (by omega) (by omega) (by omega) (by omega)
  have n2 := num_any (y % 64) 2 (by omega) (by omega) (by omega) (by omega)
  rw [hy, said_pad 64 2 y (by omega)]
  have l1 := pad_len 20 (y / 64).toNat 1 (by omega) (by omega)
  have l2 := pad_len 20 (y % 64).toNat 2 (by omega) (by omega)
  obtain ⟨D1, hD1⟩ : ∃ D, D = pad (y / 64).toNat 1 := ⟨_, rfl⟩
  obtain ⟨D2, hD2⟩ : ∃ D, D = pad (y % 64).toNat (2 : Int).toNat := ⟨_, rfl⟩
  have l2' : D2.length ≤ 20 := by rw [hD2]; exact l2
  rw [show (1 : Int).toNat = 1 from rfl, ← hD1] at n1
  rw [← hD2] at n2 ⊢
  rw [← hD1] at l1 ⊢
  have N1 := Lib.hid n1
  have N2 := Lib.hid n2
  have a1 := fun w : World => run_string_add_lists (P := Tryd.prog) w [45] D1 (by simp) (by omega)
  have a2 := fun w : World => run_string_add_lists (P := Tryd.prog) w (45 :: D1) [58] (by simp; omega) (by simp)
  have a3 := fun w : World => run_string_add_lists (P := Tryd.prog) w (45 :: (D1 ++ [58])) D2 (by simp; omega) (by omega)
  clear n1 n2 hD1 hD2 l1 l2 l2'
  unfold str at N1 N2 ⊢
  have m1 : IntKind.i64.wrap 64 = 64 := IntWalk.i64_in _ (by omega)
  have m2 : IntKind.i64.wrap 63 = 63 := IntWalk.i64_in _ (by omega)
  go_enter Tryd.func6, Tryd.ntmps6
  go_wp2
  go_region_held3 (fun _ => True) (trivial) (first | (go_at_call 9; (with_reducible refine (N1.out _).mono ?_); rintro e w2 ⟨rfl, rfl⟩) | (go_at_call 9; (with_reducible refine (N2.out _).mono ?_); rintro e w2 ⟨rfl, rfl⟩))
  go_wp2
  go_ret
  exact ⟨by simp, by repeat (first | with_reducible exact Below.refl _ _ | with_reducible apply Below.drew)⟩

theorem string52_pos (x : Int) (h0 : 0 ≤ x) (h1 : x ≤ 4611686018427387904) (w : World) (h : Tab w) :
    Calls Tryd.prog 10 #[.int .i64 x] w fun e w' => e = .returned (str (said 4096 4 x)) ∧ Below w.heap.size w w' := by
  have hc := text_any (x / 4096) (x % 4096) 4 (by omega) (by omega) (by omega) (by omega) (by omega) w h
  change Calls _ _ _ _ fun e w' => e = .returned (str (said 4096 4 x)) ∧ _ at hc
  obtain ⟨S, hS⟩ : ∃ S, S = said 4096 4 x := ⟨_, rfl⟩
  rw [← hS] at hc ⊢
  have HC := Lib.hid hc
  have e1 := and12_i64 x h0 h1
  have w2 : IntKind.i64.wrap (x / 4096) = x / 4096 := IntWalk.i64_in _ (by omega)
  have w3 : IntKind.i64.wrap (x % 4096) = x % 4096 := IntWalk.i64_in _ (by omega)
  clear h hS hc
  go_enter Tryd.func10, Tryd.ntmps10
  go_wp2_with fail
  refine HC.out.mono ?_
  rintro e w1 ⟨rfl, hb⟩
  have HB := Lib.hid hb
  clear hb
  go_wp2
  go_ret
  exact ⟨rfl, HB.out⟩
theorem string52_neg (x : Int) (h0 : x < 0) (h1 : -4611686018427387904 ≤ x) (w : World) (h : Tab w) :
    Calls Tryd.prog 10 #[.int .i64 x] w fun e w' => e = .returned (str (45 :: said 4096 4 (-x))) ∧ Below w.heap.size w w' := by
  obtain ⟨y, hy⟩ : ∃ y, -x = y := ⟨_, rfl⟩
  have hy0 : 0 ≤ y := by omega
  have hy1 : y ≤ 4611686018427387904 := by omega
  have hc := text_any (y / 4096) (y % 4096) 4 (by omega) (by omega) (by omega) (by omega) (by omega) w h
  have hl1 := dec20 (y / 4096) (by omega) (by omega)
  have hl2 := dec20 (y % 4096) (by omega) (by omega)
  rw [hy]
  obtain ⟨S, hS⟩ : ∃ S, S = said 4096 4 y := ⟨_, rfl⟩
  have hSl : S.length ≤ 100 := by
    rw [hS]
    simp only [said, fill, List.length_append, List.length_replicate, List.length_singleton]
    have : (4 : Int).toNat = 4 := rfl
    omega
  change Calls _ _ _ _ fun e w' => e = .returned (str (said 4096 4 y)) ∧ _ at hc
  rw [← hS] at hc ⊢
  have HC := Lib.hid hc
  have e1 := and12_i64 y hy0 hy1
  have w2 : IntKind.i64.wrap (y / 4096) = y / 4096 := IntWalk.i64_in _ (by omega)
  have w3 : IntKind.i64.wrap (y % 4096) = y % 4096 := IntWalk.i64_in _ (by omega)
  have hadd := fun w : World => run_string_add_lists (P := Tryd.prog) w [45] S (by simp) (by omega)
  clear h hS hl1 hl2 hc
  unfold str at HC ⊢
  go_enter Tryd.func10, Tryd.ntmps10
  go_wp2_with fail
  refine HC.out.mono ?_
  rintro e w1 ⟨rfl, hb⟩
  have HB := Lib.hid hb
  clear hb
  go_wp2
  go_ret
  exact ⟨rfl, HB.out⟩

set_option maxHeartbeats 1600000 in
theorem law52_pos (x : Int) (h0 : 0 ≤ x) (h1 : x ≤ 4611686018427387904) (w : World) :
    Calls Tryd.prog 6 #[.int .i64 x, .int .i64 12, .int .i64 4] w fun e w' => e = .returned (str (said 4096 4 x)) ∧ Below w.heap.size w w' := by
  have hy0 := h0
  have hy1 : x ≤ 4611686018427387904 := by omega
  have e1 := and12_i64 x hy0 (by omega)
  have n1 := num_any (x / 4096) 1 (by omega) (by omega) (by omega) (by omega)
  have n2 := num_any (x % 4096) 4 (by omega) (by omega) (by omega) (by omega)
  rw [said_pad 4096 4 x (by omega)]
  have l1 := pad_len 20 (x / 4096).toNat 1 (by omega) (by omega)
  have l2 := pad_len 20 (x % 4096).toNat 4 (by omega) (by omega)
  obtain ⟨D1, hD1⟩ : ∃ D, D = pad (x / 4096).toNat 1 := ⟨_, rfl⟩
  obtain ⟨D2, hD2⟩ : ∃ D, D = pad (x % 4096).toNat (4 : Int).toNat := ⟨_, rfl⟩
  have l2' : D2.length ≤ 20 := by rw [hD2]; exact l2
  rw [show (1 : Int).toNat = 1 from rfl, ← hD1] at n1
  rw [← hD2] at n2 ⊢
  rw [← hD1] at l1 ⊢
  have N1 := Lib.hid n1
  have N2 := Lib.hid n2
  have a1 := fun w : World => run_string_add_lists (P := Tryd.prog) w ([] : List UInt8) D1 (by simp) (by omega)
  have a2 := fun w : World => run_string_add_lists (P := Tryd.prog) w D1 [58] (by omega) (by simp)
  have a3 := fun w : World => run_string_add_lists (P := Tryd.prog) w (D1 ++ [58]) D2 (by simp; omega) (by omega)
  clear n1 n2 hD1 hD2 l1 l2 l2'
  unfold str at N1 N2 ⊢
  have m1 : IntKind.i64.wrap 4096 = 4096 := IntWalk.i64_in _ (by omega)
  have m2 : IntKind.i64.wrap 4095 = 4095 := IntWalk.i64_in _ (by omega)
  have hx : ¬ (x < 0) := by omega
  go_enter Tryd.func6, Tryd.ntmps6
  go_wp2
  go_region_held3 (fun _ => True) (trivial) (first | (go_at_call 9; (with_reducible refine (N1.out _).mono ?_); rintro e w2 ⟨rfl, rfl⟩) | (go_at_call 9; (with_reducible refine (N2.out _).mono ?_); rintro e w2 ⟨rfl, rfl⟩))
  go_wp2
  go_ret
  exact ⟨by simp, by repeat (first | with_reducible exact Below.refl _ _ | with_reducible apply Below.drew)⟩

set_option maxHeartbeats 1600000 in
theorem law52_neg (x : Int) (h0 : x < 0) (h1 : -4611686018427387904 ≤ x) (w : World) :
    Calls Tryd.prog 6 #[.int .i64 x, .int .i64 12, .int .i64 4] w fun e w' => e = .returned (str (45 :: said 4096 4 (-x))) ∧ Below w.heap.size w w' := by
  obtain ⟨y, hy⟩ : ∃ y, -x = y := ⟨_, rfl⟩
  have hy0 : 0 ≤ y := by omega
  have hy1 : y ≤ 4611686018427387904 := by omega
  have e1 := and12_i64 y hy0 (by omega)
  have n1 := num_any (y / 4096) 1 (by omega) (by omega) (by omega) (by omega)
  have n2 := num_any (y % 4096) 4 (by omega) (by omega) (by omega) (by omega)
  rw [hy, said_pad 4096 4 y (by omega)]
  have l1 := pad_len 20 (y / 4096).toNat 1 (by omega) (by omega)
  have l2 := pad_len 20 (y % 4096).toNat 4 (by omega) (by omega)
  obtain ⟨D1, hD1⟩ : ∃ D, D = pad (y / 4096).toNat 1 := ⟨_, rfl⟩
  obtain ⟨D2, hD2⟩ : ∃ D, D = pad (y % 4096).toNat (4 : Int).toNat := ⟨_, rfl⟩
  have l2' : D2.length ≤ 20 := by rw [hD2]; exact l2
  rw [show (1 : Int).toNat = 1 from rfl, ← hD1] at n1
  rw [← hD2] at n2 ⊢
  rw [← hD1] at l1 ⊢
  have N1 := Lib.hid n1
  have N2 := Lib.hid n2
  have a1 := fun w : World => run_string_add_lists (P := Tryd.prog) w [45] D1 (by simp) (by omega)
  have a2 := fun w : World => run_string_add_lists (P := Tryd.prog) w (45 :: D1) [58] (by simp; omega) (by simp)
  have a3 := fun w : World => run_string_add_lists (P := Tryd.prog) w (45 :: (D1 ++ [58])) D2 (by simp; omega) (by omega)
  clear n1 n2 hD1 hD2 l1 l2 l2'
  unfold str at N1 N2 ⊢
  have m1 : IntKind.i64.wrap 4096 = 4096 := IntWalk.i64_in _ (by omega)
  have m2 : IntKind.i64.wrap 4095 = 4095 := IntWalk.i64_in _ (by omega)
  go_enter Tryd.func6, Tryd.ntmps6
  go_wp2
  go_region_held3 (fun _ => True) (trivial) (first | (go_at_call 9; (with_reducible refine (N1.out _).mono ?_); rintro e w2 ⟨rfl, rfl⟩) | (go_at_call 9; (with_reducible refine (N2.out _).mono ?_); rintro e w2 ⟨rfl, rfl⟩))
  go_wp2
  go_ret
  exact ⟨by simp, by repeat (first | with_reducible exact Below.refl _ _ | with_reducible apply Below.drew)⟩
end Go.Proofs.YtonejfjhddgabaaDoor.TextW
