/- The walks of FnText26 and FnText52: whatever the number, they return true, and what was in memory before is as it was. -/
import Derived.Test.YtonejfjhddgabaaDoorTextW
import Derived.Lib.LaidTab
import Derived.Stop.LaidErr
namespace Go.Proofs.YtonejfjhddgabaaDoor.TextL
open Go.ChangeShapes Go.WideShapes Go.ChangeAt Go.RowKit
open TextP TextW

set_option maxHeartbeats 800000 in
theorem walk26 (v : Int) (hv0 : -2147483648 ≤ v) (hv1 : v < 2147483648) (w : World) (h : Tab w) :
    Calls Tryd.prog 3 #[.int .i32 v] w fun e w' => e = .returned (.bool true) ∧ Below w.heap.size w w' := by
  obtain ⟨x, hx⟩ : ∃ x, v / 2 = x := ⟨_, rfl⟩
  have hx0 : -1073741824 ≤ x := by omega
  have hx1 : x ≤ 1073741824 := by omega
  have hv : IntKind.i64.wrap v = v := IntWalk.i64_in _ (by omega)
  have hw : IntKind.i32.wrap x = x := IntWalk.i32_in _ (by omega)
  have hw6 : IntKind.i64.wrap x = x := IntWalk.i64_in _ (by omega)
  obtain ⟨S, hS⟩ : ∃ S, (∀ w : World, Tab w → Calls Tryd.prog 8 #[.int .i32 x] w fun e w' => e = .returned (str S) ∧ Below w.heap.size w w') ∧
      ∀ w : World, Calls Tryd.prog 6 #[.int .i64 x, .int .i64 6, .int .i64 2] w fun e w' => e = .returned (str S) ∧ Below w.heap.size w w' := by
    by_cases h0 : 0 ≤ x
    · exact ⟨_, fun w h => string26_pos x h0 hx1 w h, fun w => law26_pos x h0 hx1 w⟩
    · exact ⟨_, fun w h => string26_neg x (by omega) hx0 w h, fun w => law26_neg x (by omega) hx0 w⟩
  have HT := Lib.hid h
  have H1 := Lib.hid hS.1
  have H2 := Lib.hid hS.2
  have HI := Lib.hid (show ∀ w : World, Tab w → Calls Tryd.prog 5 #[.int .i64 x] w fun e w' => e = .returned (str S) ∧ Below w.heap.size w w' from fun w h => by
    have HC := Lib.hid (H1.out w h)
    clear hS h HT H1 H2 hx
    unfold str at HC ⊢
    go_enter Tryd.func5, Tryd.ntmps5
    go_wp2_with fail
    refine HC.out.mono ?_
    rintro e w1 ⟨rfl, hb⟩
    have HB := Lib.hid hb
    clear hb
    go_wp2
    go_ret
    exact ⟨rfl, HB.out⟩)
  have HC := Lib.hid (HI.out w HT.out)
  clear hS h
  unfold str at HC H2
  go_enter Tryd.func3, Tryd.ntmps3
  go_wp2_with fail
  refine HC.out.mono ?_
  rintro e w1 ⟨rfl, hb1⟩
  have HB1 := Lib.hid hb1
  clear hb1
  go_wp2_with fail
  refine (H2.out _).mono ?_
  rintro e w2 ⟨rfl, hb2⟩
  have HB2 := Lib.hid (HB1.out.trans (hb2.mono HB1.out.size))
  clear hb2
  go_wp2
  go_ret
  exact ⟨by simp, HB2.out⟩

set_option maxHeartbeats 800000 in
theorem walk52 (v : Int) (hv0 : -9223372036854775808 ≤ v) (hv1 : v < 9223372036854775808) (w : World) (h : Tab w) :
    Calls Tryd.prog 4 #[.int .i64 v] w fun e w' => e = .returned (.bool true) ∧ Below w.heap.size w w' := by
  obtain ⟨x, hx⟩ : ∃ x, v / 2 = x := ⟨_, rfl⟩
  have hx0 : -4611686018427387904 ≤ x := by omega
  have hx1 : x ≤ 4611686018427387904 := by omega
  have hv : IntKind.i64.wrap v = v := IntWalk.i64_in _ (by omega)
  have hw : IntKind.i64.wrap x = x := IntWalk.i64_in _ (by omega)
  have hw6 : IntKind.i64.wrap x = x := IntWalk.i64_in _ (by omega)
  obtain ⟨S, hS⟩ : ∃ S, (∀ w : World, Tab w → Calls Tryd.prog 10 #[.int .i64 x] w fun e w' => e = .returned (str S) ∧ Below w.heap.size w w') ∧
      ∀ w : World, Calls Tryd.prog 6 #[.int .i64 x, .int .i64 12, .int .i64 4] w fun e w' => e = .returned (str S) ∧ Below w.heap.size w w' := by
    by_cases h0 : 0 ≤ x
    · exact ⟨_, fun w h => string52_pos x h0 hx1 w h, fun w => law52_pos x h0 hx1 w⟩
    · exact ⟨_, fun w h => string52_neg x (by omega) hx0 w h, fun w => law52_neg x (by omega) hx0 w⟩
  have HT := Lib.hid h
  have H1 := Lib.hid hS.1
  have H2 := Lib.hid hS.2
  have HI := Lib.hid (show ∀ w : World, Tab w → Calls Tryd.prog 7 #[.int .i64 x] w fun e w' => e = .returned (str S) ∧ Below w.heap.size w w' from fun w h => by
    have HC := Lib.hid (H1.out w h)
    clear hS h HT H1 H2 hx
    unfold str at HC ⊢
    go_enter Tryd.func7, Tryd.ntmps7
    go_wp2_with fail
    refine HC.out.mono ?_
    rintro e w1 ⟨rfl, hb⟩
    have HB := Lib.hid hb
    clear hb
    go_wp2
    go_ret
    exact ⟨rfl, HB.out⟩)
  have HC := Lib.hid (HI.out w HT.out)
  clear hS h
  unfold str at HC H2
  go_enter Tryd.func4, Tryd.ntmps4
  go_wp2_with fail
  refine HC.out.mono ?_
  rintro e w1 ⟨rfl, hb1⟩
  have HB1 := Lib.hid hb1
  clear hb1
  go_wp2_with fail
  refine (H2.out _).mono ?_
  rintro e w2 ⟨rfl, hb2⟩
  have HB2 := Lib.hid (HB1.out.trans (hb2.mono HB1.out.size))
  clear hb2
  go_wp2
  go_ret
  exact ⟨by simp, HB2.out⟩

theorem tab_of (W : World) (h : laidMet Tryd.prog Rows.fnText26Row.laid W) : Tab W := by
  refine Lib.tabIs_of_head (g := 0) (by kernel_rfl) (t := 42) (e := 34) (n := 20) (rest := []) (by kernel_rfl) Tryd.underlying42 Tryd.underlying34 (by kernel_rfl) (by kernel_rfl) ?_
  have h' : laidMet Tryd.prog (("math/bits.deBruijn32tab", Rows.laid_math_bits_deBruijn32tab) :: ("math/bits.deBruijn64tab", Rows.laid_math_bits_deBruijn64tab) :: ("internal/strconv.uint64pow10", Rows.laid_internal_strconv_uint64pow10) :: []) W := h
  exact h'.tail.tail
end Go.Proofs.YtonejfjhddgabaaDoor.TextL
