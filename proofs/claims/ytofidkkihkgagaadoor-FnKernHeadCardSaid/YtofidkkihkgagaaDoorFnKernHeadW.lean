/- The walk of FnKernHead: whatever the arguments, it returns true, and what was in memory before is as it was. -/
import Derived.Test.YtofidkkihkgagaaDoorKernB
namespace Go.Proofs.YtofidkkihkgagaaDoor.FnKernHeadW
open Go.ChangeShapes Go.WideShapes Go.ChangeAt Go.RowKit
open Lst Mem SpecB SfntB View KernB AppZ

theorem four_at (w : World) (x : Int) : At (w.alloc (.cells #[.int .i64 x, .int .i64 0, .int .i64 0, .int .i64 0] 3)) w.heap.size 0 (vals .i64 [x, 0, 0, 0]) := by
  intro j v hj
  match j, hj with
  | 0, hj => simp [vals] at hj; subst hj; simp
  | 1, hj => simp [vals] at hj; subst hj; simp
  | 2, hj => simp [vals] at hj; subst hj; simp
  | 3, hj => simp [vals] at hj; subst hj; simp

set_option maxHeartbeats 1600000 in
set_option maxRecDepth 3000 in
theorem walk (p : Int) (hp : 0 ≤ p ∧ p ≤ 65535) (a0 : Option Addr) (n cap0 : Nat) (ls : List Int) (w : World) (hn : n = ls.length) (hsz : n ≤ 100) (hr : Rd w a0 n cap0 (vals .u8 ls)) :
    Calls Tryd.prog 4 #[.int .u16 p, .slice a0 n cap0] w fun e w' => e = .returned (.bool true) ∧ Below w.heap.size w w' := by
  obtain ⟨i0, hi0, hz0, hz1, hz2⟩ := info_parts u8info
  obtain ⟨np, hnp⟩ : ∃ np : Nat, p % 1000 = (np : Int) := ⟨(p % 1000).toNat, by omega⟩
  have hnp1 : np < 1000 := by omega
  obtain ⟨hp0, hp1⟩ := hp
  have HR := Lib.hid hr
  have HN := Lib.hid hn
  have w1 : IntKind.i64.wrap (np : Int) = np := IntWalk.i64_in _ (by omega)
  have e1 : ¬ ((2147483647 : Int) < n) := by omega
  have e2 : ¬ ((100 : Int) < n) := by omega
  clear hr hn
  go_enter Tryd.func4, Tryd.ntmps4
  go_wp2_with (at_builtin; refine app_any rfl _ _ 23 rfl w.heap.size 5 i0 (.int .u8 0) 1 Tryd.underlying23 hi0 hz0 hz1 hz2 rfl _ _ _ rfl (made_row w _) a0 n cap0 (vals .u8 ls) rfl (HR.out.new _) (vals_one _ _) ?c3 ?c4 ?c5 ?_)
  case c3 => unfold maxLen; omega
  case c4 => omega
  intro v1 w1 hown1 hgrow1 hnil1
  have hb1 : Below w.heap.size w w1 := (bel_made w _ _).grown hgrow1 (by simp) (fun g hg => by simp [Value.ownBlock] at hg; omega)
  have hn1 : v1 ≠ .slice none 0 0 := fun h => by first | exact hnil1 h | simpa using hnil1.1 h
  have hown1 : w1.ownsRow w.heap.size 5 1 v1 n (vals .u8 ls) := by simpa using hown1
  have HO1 := Lib.hid hown1
  have HB1 := Lib.hid hb1
  have HN1 := Lib.hid hn1
  have HW := Lib.hid (words_any w1.heap.size 0 4 [(np : Int), 0, 0, 0] (w1.alloc (.cells #[.int .i64 (np : Int), .int .i64 0, .int .i64 0, .int .i64 0] 3)) (by simp) (four_at w1 np) (by simp; omega) (by simp))
  clear hown1 hgrow1 hnil1 hb1 hn1
  go_wp2_with fail
  refine HW.out.mono ?_
  intro e w2 hm
  obtain ⟨g2, cap2, rfl, hA2, hcap2, hg2, hg2', hb2⟩ := made_open hm
  have hO2 := own_keep (HO1.out.alloc _) hb2
  have hB2 := (HB1.out.alloc HB1.out.size _).trans (hb2.mono (by have := HB1.out.size; simp; omega))
  have HA2 := Lib.hid (Rd.of_At (c := cap2) hA2)
  have HO2 := Lib.hid hO2
  have HB2 := Lib.hid hB2
  clear hA2 hm hb2 hO2 hB2 hcap2 hg2 hg2'
  have l8 : (words [(np : Int), 0, 0, 0]).length = 8 := rfl
  rw [vals_len, l8] at HA2
  rw [l8]
  go_wp2_with (at_builtin; refine app_any rfl _ _ 23 rfl w.heap.size 5 i0 (.int .u8 0) 1 Tryd.underlying23 hi0 hz0 hz1 hz2 rfl _ _ _ rfl HO2.out (some ⟨g2, 0, none⟩) 8 cap2 (vals .u8 (words [(np : Int), 0, 0, 0])) rfl HA2.out (vals_one _ _) ?d3 ?d4 HB2.out.size ?_)
  case d3 => unfold maxLen; omega
  case d4 => omega
  intro v3 w3 hown3 hgrow3 hnil3
  have hn3 : v3 ≠ .slice none 0 0 := fun h => by first | exact hnil3 h | exact HN1.out (hnil3.1 h).1
  have hb3 : Below w.heap.size w w3 := HB2.out.grown hgrow3 HB2.out.size (fun g hg => own_ge HO2.out hg)
  obtain ⟨g3, cap3, rfl, hA3, hcap3, hg3, hg3'⟩ := own_open hown3 hn3
  have HO3 := Lib.hid hown3
  have HB3 := Lib.hid hb3
  have hM : 6 * (np : Int) = ((6 * np : Nat) : Int) := by omega
  have HM := Lib.hid hM
  clear hown3 hgrow3 hnil3 hn3 hb3 hA3 hcap3 hg3 hg3' hM
  go_wp2_with (at_builtin; refine wpList_app_zeros _ rfl _ _ 23 3 rfl w.heap.size 5 i0 (.int .u8 0) 1 Tryd.underlying23 Tryd.underlying3 hi0 hz0 hz1 hz2 rfl rfl g3 (n + 8) cap3 _ rfl HO3.out (6 * np) _ rfl HM.out ?f3 ?f4 HB3.out.size ?f5 ?_)
  case f3 => unfold maxLen; omega
  case f4 => omega
  case f5 => omega
  intro v4 w4 hown4 hgrow4 hn4
  have hb4 : Below w.heap.size w w4 := HB3.out.grown hgrow4 HB3.out.size (fun g hg => by cases hg; exact own_ge HO3.out rfl)
  obtain ⟨g4, cap4, rfl, hA4, hcap4, hg4, hg4'⟩ := own_open hown4 hn4
  rw [show List.replicate (6 * np) (Value.int .u8 0) = vals .u8 (List.replicate (6 * np) 0) by simp [vals], ← vals_app, ← vals_app, ← List.append_assoc] at hA4
  obtain ⟨N4, hN4⟩ : ∃ N4, N4 = n + 8 + 6 * np := ⟨_, rfl⟩
  rw [← hN4] at hcap4 ⊢
  have hl4 : N4 = (ls ++ words [(np : Int), 0, 0, 0] ++ List.replicate (6 * np) 0).length := by
    rw [List.length_append, List.length_append, l8, List.length_replicate, ← HN.out]; exact hN4
  have hsub : (N4 : Int) - (n : Int) = 8 + 6 * (np : Int) := by omega
  have hx := HN.out
  have HI := Lib.hid (impl_any g4 N4 cap4 n np (ls ++ words [(np : Int), 0, 0, 0] ++ List.replicate (6 * np) 0) (hi np) (lo np) w4 hl4 hA4 (by omega) (by omega) (by unfold hi; omega) (by unfold lo; omega) (by unfold hi lo; omega) (by omega)
    (by rw [List.append_assoc, List.getElem?_append_right (by omega), hx, Nat.sub_self]; rfl) (by rw [List.append_assoc, List.getElem?_append_right (by omega), hx, show ls.length + 1 - ls.length = 1 by omega]; rfl))
  have HB4 := Lib.hid hb4
  have w3 : IntKind.u16.wrap (8 + 6 * (np : Int)) = 8 + 6 * (np : Int) := IntWalk.u16_in _ (by omega)
  have hsb : n + 8 + 6 * np = N4 := hN4.symm
  clear hown4 hgrow4 hn4 hb4 hA4 hcap4 hg4 hg4' hN4 hl4 hx
  go_wp2_with fail
  refine HI.out.mono ?_
  rintro e w5 ⟨rfl, hb5⟩
  have e5 : (n : Int) + 8 = n + 8 := rfl
  go_wp2
  go_ret
  exact ⟨rfl, HB4.out.trans (hb5.mono HB4.out.size)⟩

theorem row (p : Int) (wp : (Lit.int .u16 p).wf = true) (a0 : Option Addr) (n cap0 : Nat) (zs : List Int) (w : World) (w0 : IsRow .u8 w a0 n cap0 zs) :
    Calls Tryd.prog 4 #[.int .u16 p, .slice a0 n cap0] w fun e w' => e = .returned (.bool true) ∧ Below w.heap.size w w' := by
  have hp := bounds_u16 wp
  by_cases h1 : (2147483647 : Int) < (n : Int)
  · clear w0 wp
    go_enter Tryd.func4, Tryd.ntmps4
    go_wp2
    go_ret
    exact ⟨rfl, Below.refl _ _⟩
  by_cases h2 : (100 : Int) < (n : Int)
  · clear w0 wp
    go_enter Tryd.func4, Tryd.ntmps4
    go_wp2
    go_ret
    exact ⟨rfl, Below.refl _ _⟩
  exact walk p hp a0 n cap0 (zs.take n) w w0.len.symm (by omega) (Rd.of_ints w0)
end Go.Proofs.YtofidkkihkgagaaDoor.FnKernHeadW
