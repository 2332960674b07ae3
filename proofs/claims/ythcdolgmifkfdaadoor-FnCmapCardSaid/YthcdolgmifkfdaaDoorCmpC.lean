/- Contracts of the look-ups by a table of letters: formats 0, 6 and 12. -/
import Derived.Test.YthcdolgmifkfdaaDoorCmpL
import Derived.Test.YthcdolgmifkfdaaDoorStl
import Derived.BigQuiet
import Derived.Deep.QuietTactic
namespace Go.Proofs.YthcdolgmifkfdaaDoor.CmpC
open Go.ChangeShapes Go.WideShapes Go.ChangeAt Go.RowKit
open Lst Mem RowG GlyM CadL CmpL
set_option linter.unusedSimpArgs false
set_option linter.unusedVariables false
theorem below_draws {B : Nat} {a w : World} (h : Below B a w) (n : Nat) : Below B a (w.drewN n) := ⟨h.os, h.tape, h.output, h.size, h.block⟩
def Ans (v : Int) (w : World) (e : Ending) (w' : World) : Prop := e = .returned (.tuple #[.int .u16 v, .nilIface]) ∧ Below w.heap.size w w'
theorem roman_any (r : Int) (w : World) (hr : 0 ≤ r ∧ r ≤ 1114111) : Calls Tryd.prog 26 #[.int .i32 r] w fun e w' => e = .returned (.tuple #[.int .u8 (r % 256), .bool (decide (r < 128))]) ∧ w = w' := by
  have h1 : decide ((0 : Int) ≤ r) = true := by simp; omega
  have h2 : IntKind.u8.wrap r = r % 256 := by rw [IntKind.wrap_u8]
  by_cases h : r < 128
  · have h3 : decide (r < 128) = true := by simp [h]
    rw [h3]
    go_enter Tryd.func26, Tryd.ntmps26
    go_wp2
    go_ret2
    exact ⟨rfl, rfl⟩
  · have h3 : decide (r < 128) = false := by simp [h]
    rw [h3]
    go_enter Tryd.func26, Tryd.ntmps26
    go_wp2
    go_ret2
    exact ⟨rfl, rfl⟩
set_option maxRecDepth 4000 in
theorem cl0 (fb tb : Nat) (bs : List Int) (r : Int) (w : World) (hr : 0 ≤ r ∧ r ≤ 1114111) (hl : bs.length = 256) (hb : ∀ x ∈ bs, 0 ≤ x ∧ x ≤ 255) (hA : At w tb 0 (vals .u8 bs)) :
    Calls Tryd.prog 25 #[.pointer (some ⟨fb, 0, none⟩), .pointer none, .int .i32 r, .pointer (some ⟨tb, 0, none⟩)] w (Ans (if r < 128 then bs.getD r.toNat 0 else 0) w) := by
  have HR := Lib.hid (roman_any r w hr)
  by_cases h : r < 128
  · obtain ⟨x, rfl⟩ : ∃ x : Nat, r = (x : Int) := ⟨r.toNat, by omega⟩
    have hx : x < 128 := by omega
    have c0 := hA.get (j := x) (by omega)
    rw [Nat.zero_add] at c0
    have hv := hb _ (getD_mem bs x 0 (by omega))
    obtain ⟨y, hy⟩ : ∃ y, bs.getD x 0 = y := ⟨_, rfl⟩
    rw [hy] at c0 hv
    have w1 : IntKind.u16.wrap y = y := IntWalk.u16_in _ (by omega)
    have w2 : (x : Int) % 256 = (x : Int) := by omega
    rw [if_pos h, show ((x : Int)).toNat = x from rfl, hy]
    have w3 : decide ((x : Int) < 128) = true := by simp; omega
    have w4 : (x : Int) < 128 := by omega
    clear hA hb hl h
    go_enter Tryd.func25, Tryd.ntmps25
    go_wp2_with fail
    refine HR.out.mono ?_
    rintro e w1 ⟨rfl, rfl⟩
    go_wp2
    go_ret2
    exact ⟨rfl, Below.refl _ _⟩
  · rw [if_neg h]
    have h2 : decide (r < 128) = false := by simp; omega
    clear hA hb hl
    go_enter Tryd.func25, Tryd.ntmps25
    go_wp2_with fail
    refine HR.out.mono ?_
    rintro e w1 ⟨rfl, rfl⟩
    go_wp2
    go_ret2
    exact ⟨rfl, Below.refl _ _⟩
set_option maxRecDepth 4000 in
theorem cl6 (fb cb eb n c : Nat) (A : Option Addr) (f r : Int) (es : List Int) (w : World) (hr : 0 ≤ r ∧ r ≤ 65535) (hf : 0 ≤ f ∧ f ≤ 65535) (hn : n = es.length) (hn2 : n ≤ 65535) (h0 : w.cell? ⟨cb, 0, none⟩ = some (.int .u16 f)) (h1 : w.cell? ⟨eb, 0, none⟩ = some (.slice A n c)) (hA : 0 < n → ∃ g, A = some ⟨g, 0, none⟩ ∧ At w g 0 (vals .u16 es)) :
    Calls Tryd.prog 30 #[.pointer (some ⟨fb, 0, none⟩), .pointer none, .int .i32 r, .pointer (some ⟨cb, 0, none⟩), .pointer (some ⟨eb, 0, none⟩)] w (Ans (if r < f then 0 else es.getD (r - f).toNat 0) w) := by
  have w1 : IntKind.u16.wrap r = r := IntWalk.u16_in _ (by omega)
  by_cases h : r < f
  · rw [if_pos h]
    have h2 : decide (r < f) = true := by simp; omega
    clear hA h
    go_enter Tryd.func30, Tryd.ntmps30
    go_wp2
    go_ret2
    exact ⟨rfl, Below.refl _ _⟩
  · rw [if_neg h]
    have h2 : decide (r < f) = false := by simp; omega
    obtain ⟨q, hq⟩ : ∃ q : Nat, r - f = (q : Int) := ⟨(r - f).toNat, by omega⟩
    have hq2 : q ≤ 65535 := by omega
    have w2 : IntKind.u16.wrap (r - f) = (q : Int) := by rw [hq]; exact IntWalk.u16_in _ (by omega)
    have w3 : IntKind.i64.wrap (q : Int) = (q : Int) := IntWalk.i64_in _ (by omega)
    have w4 : IntKind.u16.wrap (q : Int) = (q : Int) := IntWalk.u16_in _ (by omega)
    rw [hq, show ((q : Int)).toNat = q from rfl]
    clear h
    by_cases hqn : q < n
    · obtain ⟨g, rfl, hA2⟩ := hA (by omega)
      have hA : At w g 0 (vals .u16 es) := hA2
      have c0 := hA.get (j := q) (by omega)
      rw [Nat.zero_add] at c0
      obtain ⟨y, hy⟩ : ∃ y, es.getD q 0 = y := ⟨_, rfl⟩
      rw [hy] at c0
      rw [hy]
      have h3 : decide ((q : Int) ≥ (n : Int)) = false := by simp; omega
      clear hA
      go_enter Tryd.func30, Tryd.ntmps30
      go_wp2
      go_ret2
      exact ⟨rfl, Below.refl _ _⟩
    · rw [show es.getD q 0 = 0 from by rw [List.getD_eq_getElem?_getD, List.getElem?_eq_none (by omega)]; rfl]
      have h3 : decide ((q : Int) ≥ (n : Int)) = true := by simp; omega
      clear hA
      go_enter Tryd.func30, Tryd.ntmps30
      go_wp2
      go_ret2
      exact ⟨rfl, Below.refl _ _⟩
theorem asc_of {ps : List Pr} (h : ps.Pairwise (fun p q => p.1 < q.1)) {i j : Nat} (hij : i < j) (hj : j < ps.length) : (ps.getD i (0, 0)).1 < (ps.getD j (0, 0)).1 := by
  have := List.pairwise_iff_getElem.1 h i j (by omega) hj hij
  rw [List.getD_eq_getElem?_getD, List.getD_eq_getElem?_getD, List.getElem?_eq_getElem (by omega), List.getElem?_eq_getElem hj]
  exact this
/-- a letter's row of format 12 -/
def gc (p : Pr) : List Value := [.int .u32 p.1, .int .u32 p.1, .int .u32 p.2]
theorem gc_len (p : Pr) : (gc p).length = 3 := rfl
set_option maxRecDepth 4000 in
theorem cl12 (fb eb n c : Nat) (A : Option Addr) (r : Int) (ps : List Pr) (w : World) (hr : 0 ≤ r ∧ r ≤ 1114111) (hn : n = ps.length) (hn2 : n ≤ 40) (hps : ∀ p ∈ ps, (0 ≤ p.1 ∧ p.1 ≤ 1114111) ∧ (1 ≤ p.2 ∧ p.2 ≤ 9)) (hasc : ps.Pairwise (fun p q => p.1 < q.1)) (h1 : w.cell? ⟨eb, 0, none⟩ = some (.slice A n c)) (hA : 0 < n → ∃ g, A = some ⟨g, 0, none⟩ ∧ At w g 0 (ps.flatMap gc)) :
    Calls Tryd.prog 32 #[.pointer (some ⟨fb, 0, none⟩), .pointer none, .int .i32 r, .pointer (some ⟨eb, 0, none⟩)] w (Ans (CmpL.look ps r) w) := by
  have w1 : IntKind.u32.wrap r = r := IntWalk.u32_in _ (by omega)
  have HN := Lib.hid hn
  have HA := Lib.hid hA
  have HP := Lib.hid (And.intro hps hasc)
  clear hn hA hps hasc
  go_enter Tryd.func32, Tryd.ntmps32
  go_wp2_with fail
  go_quiet (fail)
  go_wp2
  go_loopw [10, 11] (fun a b wr => ∃ (i j m : Nat), a = .int .i64 i ∧ b = .int .i64 j ∧ i ≤ j ∧ j ≤ n ∧ w.drewN m = wr ∧ (∀ t, t < i → (ps.getD t (0, 0)).1 < r) ∧ (∀ t, j ≤ t → t < n → r < (ps.getD t (0, 0)).1)) (fun a b _ => (intOf b).toNat - (intOf a).toNat)
  case atStart => exact ⟨0, n, _, rfl, rfl, Nat.zero_le _, Nat.le_refl _, rfl, fun t ht => by omega, fun t h h2 => by omega⟩
  case round =>
    obtain ⟨i, j, m, rfl, rfl, hij, hjn, rfl, hlo, hhi⟩ := hrel
    have h1m : (w.drewN m).cell? ⟨eb, 0, none⟩ = some (.slice A n c) := h1
    by_cases hlt : i < j
    · obtain ⟨g, rfl, hA⟩ := HA.out (by omega)
      obtain ⟨d, hd⟩ : ∃ d : Nat, (j : Int) - (i : Int) = (d : Int) := ⟨j - i, by omega⟩
      obtain ⟨d2, hd2⟩ : ∃ d2 : Nat, (d : Int).tdiv 2 = (d2 : Int) := ⟨d / 2, Int.ofNat_tdiv d 2⟩
      have hd3 : d2 = d / 2 := by have h2 : ((d / 2 : Nat) : Int) = (d : Int).tdiv 2 := Int.ofNat_tdiv d 2; rw [hd2] at h2; omega
      obtain ⟨h, hh⟩ : ∃ h : Nat, (i : Int) + (d2 : Int) = (h : Int) := ⟨i + d2, by omega⟩
      have hhn : h < n := by omega
      have hih : i ≤ h := by omega
      have hhj : h < j := by omega
      clear hd3
      have e1 : IntKind.i64.wrap (d : Int) = (d : Int) := IntWalk.i64_in _ (by omega)
      have e3 : IntKind.i64.wrap (d2 : Int) = (d2 : Int) := IntWalk.i64_in _ (by omega)
      have e4 : IntKind.i64.wrap (h : Int) = (h : Int) := IntWalk.i64_in _ (by omega)
      have e5 : IntKind.i64.wrap ((h : Int) + 1) = ((h + 1 : Nat) : Int) := by rw [IntWalk.i64_in _ (by omega)]; rfl
      have hhl : h < ps.length := by rw [← HN.out]; exact hhn
      have c0 := RowG.at_flat gc_len (0, 0) hA hhl (r := 0) (by omega) rfl
      have c1 := RowG.at_flat gc_len (0, 0) hA hhl (r := 1) (by omega) rfl
      have c2 := RowG.at_flat gc_len (0, 0) hA hhl (r := 2) (by omega) rfl
      rw [Nat.mul_comm 3 h] at c0 c1 c2
      have hp := HP.out.1 _ (getD_mem ps h (0, 0) hhl)
      obtain ⟨p, hp0⟩ : ∃ p, ps.getD h (0, 0) = p := ⟨_, rfl⟩
      obtain ⟨x, y⟩ := p
      rw [hp0] at c0 c1 c2 hp
      simp only at c0 c1 c2 hp
      have d0 : (w.drewN m).cell? ⟨g, h * 3, none⟩ = some (.int .u32 x) := c0
      have d1 : (w.drewN m).cell? ⟨g, h * 3 + 1, none⟩ = some (.int .u32 x) := c1
      have d2 : (w.drewN m).cell? ⟨g, h * 3 + 2, none⟩ = some (.int .u32 y) := c2
      have HX := Lib.hid (And.intro hlo (And.intro hhi hp0))
      clear c0 c1 c2 hlo hhi
      by_cases hrx : r < x
      · have k1 : decide (r < x) = true := by simp; omega
        go_wp2
        go_roundw
        case rel =>
          refine ⟨i, h, _, rfl, rfl, hih, by omega, rfl, HX.out.1, fun t ht htn => ?_⟩
          rcases Nat.eq_or_lt_of_le ht with rfl | ht
          · rw [HX.out.2.2]; exact hrx
          · have := asc_of HP.out.2 ht (by rw [← HN.out]; exact htn)
            rw [HX.out.2.2] at this
            exact Int.lt_trans hrx this
        case measure => simp [intOf]; omega
      · by_cases hxr : x < r
        · have k1 : decide (r < x) = false := by simp; omega
          have k2 : decide (x < r) = true := by simp; omega
          go_wp2
          go_roundw
          case rel =>
            refine ⟨h + 1, j, _, by go_num, rfl, by omega, hjn, rfl, fun t ht => ?_, HX.out.2.1⟩
            rcases Nat.eq_or_lt_of_le (Nat.le_of_lt_succ ht) with rfl | ht
            · rw [HX.out.2.2]; exact hxr
            · have := asc_of HP.out.2 ht hhl
              rw [HX.out.2.2] at this
              exact Int.lt_trans this hxr
          case measure => simp [intOf]; omega
        · obtain rfl : x = r := by omega
          have k1 : decide (x < x) = false := by simp
          have e6 : IntKind.u32.wrap (x - x) = 0 := by rw [Int.sub_self]; rfl
          have e7 : IntKind.u32.wrap (0 + y) = y := by rw [Int.zero_add]; exact IntWalk.u32_in _ (by omega)
          have e9 : IntKind.u32.wrap y = y := IntWalk.u32_in _ (by omega)
          have e8 : IntKind.u16.wrap y = y := IntWalk.u16_in _ (by omega)
          have e10 : IntKind.u16.wrap (IntKind.u32.wrap (IntKind.u32.wrap 0 + y)) = y := by rw [show IntKind.u32.wrap 0 = 0 from rfl, e7, e8]
          have hl : CmpL.look ps x = y := by
            have := CmpL.look_hit ps h x hhl (fun t ht => by have := asc_of HP.out.2 ht hhl; rw [HX.out.2.2] at this; exact Int.ne_of_lt this) (by rw [HX.out.2.2])
            rw [HX.out.2.2] at this
            exact this
          have HL := Lib.hid hl
          clear hl
          go_wp2_with fail
          refine Stl.region 12 (by kernel_rfl) (by kernel_rfl) (by kernel_rfl) (fun X hX => ?_)
          have hbX : Below w.heap.size w X := by rw [← hX]; exact Below.drew (below_draws (Below.refl _ _) _)
          have x0 : X.cell? ⟨g, h * 3, none⟩ = some (.int .u32 x) := by rw [← hX]; exact d0
          have x2 : X.cell? ⟨g, h * 3 + 2, none⟩ = some (.int .u32 y) := by rw [← hX]; exact d2
          have HB := Lib.hid hbX
          clear hX hbX d0 d1 d2
          simp only [List.take_succ_cons, List.take_zero, List.drop_succ_cons, List.drop_zero]
          repeat (refine Stl.step (fun K hK => ?_); go_simp; refine hK _ ?_; clear hK K)
          refine Stl.nil ?_
          go_wp2
          go_ret2
          exact ⟨by rw [HL.out]; rfl, HB.out⟩
    · obtain rfl : i = j := by omega
      have hl : CmpL.look ps r = 0 := CmpL.look_none ps r fun t ht => by
        rw [← HN.out] at ht
        rcases Nat.lt_or_ge t i with h | h
        · have := hlo t h; omega
        · have := hhi t h ht; omega
      have HL := Lib.hid hl
      clear hl hlo hhi
      go_wp2
      go_ret2
      exact ⟨by rw [HL.out]; rfl, below_draws (Below.refl _ _) _⟩
end Go.Proofs.YthcdolgmifkfdaaDoor.CmpC
