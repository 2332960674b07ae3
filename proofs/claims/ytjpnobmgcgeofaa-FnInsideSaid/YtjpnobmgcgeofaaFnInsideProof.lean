/-
  Whether every place of a box is in another one: the statement FnInside, for every input.
  The frame around the walk is the kit's shell (proof-skeleton.mjs).
-/
import Derived.Test.YtjpnobmgcgeofaaRows
import Derived.WalkKit
import Derived.ProofKit
import Derived.OpenShut
import Derived.ShutString
import Derived.ChangeOld
import Derived.Below
import Derived.Test.YtjpnobmgcgeofaaInside
namespace Go.Proofs.Ytjpnobmgcgeofaa.fnInside
open Go.ChangeShapes Go.WideShapes Go.ChangeAt Go.RowKit
open Go.ChangeMaps (open_string shut_string)
set_option linter.unusedVariables false      -- a walk need not use every 'w<i>' (that an integer argument fits its kind)

theorem own : ownKnob Try.prog.godebug = none := by kernel_rfl

/-! ### STEP 1: THE WALK: the Go text returns true. 'Below w.heap.size w w'': the world has at most new blocks (Derived/RowKit3.lean). Part the cases AHEAD of 'go_enter' where a test parts the walk; take each callee by a contract of your own. -/
set_option maxHeartbeats 4000000 in
theorem walk (a0 : Int) (a1 : Int) (a2 : Int) (a3 : Int) (a4 : Int) (a5 : Int) (a6 : Int) (a7 : Int) (w0 : (Lit.int .i16 a0).wf = true) (w1 : (Lit.int .i16 a1).wf = true) (w2 : (Lit.int .i16 a2).wf = true) (w3 : (Lit.int .i16 a3).wf = true) (w4 : (Lit.int .i16 a4).wf = true) (w5 : (Lit.int .i16 a5).wf = true) (w6 : (Lit.int .i16 a6).wf = true) (w7 : (Lit.int .i16 a7).wf = true) (w : World) :
    Calls Try.prog 5 #[.int .i16 a0, .int .i16 a1, .int .i16 a2, .int .i16 a3, .int .i16 a4, .int .i16 a5, .int .i16 a6, .int .i16 a7] w fun e w' => e = .returned (.bool true) ∧ Below w.heap.size w w' := by
  have b0 := bounds_i16 w0
  have b1 := bounds_i16 w1
  have b2 := bounds_i16 w2
  have b3 := bounds_i16 w3
  have b4 := bounds_i16 w4
  have b5 := bounds_i16 w5
  have b6 := bounds_i16 w6
  have b7 := bounds_i16 w7
  clear w0 w1 w2 w3 w4 w5 w6 w7
  have Z : Inside.insB 0 0 0 0 0 0 0 0 = true := Inside.insB_yes (by omega)
  by_cases h1 : a2 ≤ a0
  · have E : Inside.insB a0 a1 a2 a3 a4 a5 a6 a7 = true := Inside.insB_yes (by omega)
    go_enter Try.func5, Try.ntmps5
    go_wp2_with (first | (go_at_call 14; ((with_reducible refine (Geo.box_at _ _ _ _ _ (by omega) (by omega) (by omega) (by omega)).mono ?_); rintro e w1 ⟨rfl, rfl⟩)) | (go_at_call 15; refine (Inside.inside_any _ _ _ _ _ _ _ _ _ (by omega) (by omega) (by omega) (by omega) (by omega) (by omega) (by omega) (by omega)).mono ?_; rintro e w1 ⟨rfl, hb⟩))
    go_ret
    exact ⟨by first | rfl | exact Nums.ret_bool (by simp; omega), by repeat (first | with_reducible exact Below.refl _ _ | with_reducible apply Below.drew | with_reducible apply Geo.bel_alloc | (with_reducible refine Geo.bel_trans ?_ (by assumption)))⟩
  · by_cases h2 : a3 ≤ a1
    · have E : Inside.insB a0 a1 a2 a3 a4 a5 a6 a7 = true := Inside.insB_yes (by omega)
      go_enter Try.func5, Try.ntmps5
      go_wp2_with (first | (go_at_call 14; ((with_reducible refine (Geo.box_at _ _ _ _ _ (by omega) (by omega) (by omega) (by omega)).mono ?_); rintro e w1 ⟨rfl, rfl⟩)) | (go_at_call 15; refine (Inside.inside_any _ _ _ _ _ _ _ _ _ (by omega) (by omega) (by omega) (by omega) (by omega) (by omega) (by omega) (by omega)).mono ?_; rintro e w1 ⟨rfl, hb⟩))
      go_ret
      exact ⟨by first | rfl | exact Nums.ret_bool (by simp; omega), by repeat (first | with_reducible exact Below.refl _ _ | with_reducible apply Below.drew | with_reducible apply Geo.bel_alloc | (with_reducible refine Geo.bel_trans ?_ (by assumption)))⟩
    · by_cases h3 : a4 ≤ a0
      · by_cases h4 : a2 ≤ a6
        · by_cases h5 : a5 ≤ a1
          · by_cases h6 : a3 ≤ a7
            · have E : Inside.insB a0 a1 a2 a3 a4 a5 a6 a7 = true := Inside.insB_yes (by omega)
              go_enter Try.func5, Try.ntmps5
              go_wp2_with (first | (go_at_call 14; ((with_reducible refine (Geo.box_at _ _ _ _ _ (by omega) (by omega) (by omega) (by omega)).mono ?_); rintro e w1 ⟨rfl, rfl⟩)) | (go_at_call 15; refine (Inside.inside_any _ _ _ _ _ _ _ _ _ (by omega) (by omega) (by omega) (by omega) (by omega) (by omega) (by omega) (by omega)).mono ?_; rintro e w1 ⟨rfl, hb⟩))
              go_ret
              exact ⟨by first | rfl | exact Nums.ret_bool (by simp; omega), by repeat (first | with_reducible exact Below.refl _ _ | with_reducible apply Below.drew | with_reducible apply Geo.bel_alloc | (with_reducible refine Geo.bel_trans ?_ (by assumption)))⟩
            · have E : Inside.insB a0 a1 a2 a3 a4 a5 a6 a7 = false := Inside.insB_no (by omega)
              go_enter Try.func5, Try.ntmps5
              go_wp2_with (first | (go_at_call 14; ((with_reducible refine (Geo.box_at _ _ _ _ _ (by omega) (by omega) (by omega) (by omega)).mono ?_); rintro e w1 ⟨rfl, rfl⟩)) | (go_at_call 15; refine (Inside.inside_any _ _ _ _ _ _ _ _ _ (by omega) (by omega) (by omega) (by omega) (by omega) (by omega) (by omega) (by omega)).mono ?_; rintro e w1 ⟨rfl, hb⟩))
              go_ret
              exact ⟨by first | rfl | exact Nums.ret_bool (by simp; omega), by repeat (first | with_reducible exact Below.refl _ _ | with_reducible apply Below.drew | with_reducible apply Geo.bel_alloc | (with_reducible refine Geo.bel_trans ?_ (by assumption)))⟩
          · have E : Inside.insB a0 a1 a2 a3 a4 a5 a6 a7 = false := Inside.insB_no (by omega)
            go_enter Try.func5, Try.ntmps5
            go_wp2_with (first | (go_at_call 14; ((with_reducible refine (Geo.box_at _ _ _ _ _ (by omega) (by omega) (by omega) (by omega)).mono ?_); rintro e w1 ⟨rfl, rfl⟩)) | (go_at_call 15; refine (Inside.inside_any _ _ _ _ _ _ _ _ _ (by omega) (by omega) (by omega) (by omega) (by omega) (by omega) (by omega) (by omega)).mono ?_; rintro e w1 ⟨rfl, hb⟩))
            go_ret
            exact ⟨by first | rfl | exact Nums.ret_bool (by simp; omega), by repeat (first | with_reducible exact Below.refl _ _ | with_reducible apply Below.drew | with_reducible apply Geo.bel_alloc | (with_reducible refine Geo.bel_trans ?_ (by assumption)))⟩
        · have E : Inside.insB a0 a1 a2 a3 a4 a5 a6 a7 = false := Inside.insB_no (by omega)
          go_enter Try.func5, Try.ntmps5
          go_wp2_with (first | (go_at_call 14; ((with_reducible refine (Geo.box_at _ _ _ _ _ (by omega) (by omega) (by omega) (by omega)).mono ?_); rintro e w1 ⟨rfl, rfl⟩)) | (go_at_call 15; refine (Inside.inside_any _ _ _ _ _ _ _ _ _ (by omega) (by omega) (by omega) (by omega) (by omega) (by omega) (by omega) (by omega)).mono ?_; rintro e w1 ⟨rfl, hb⟩))
          go_ret
          exact ⟨by first | rfl | exact Nums.ret_bool (by simp; omega), by repeat (first | with_reducible exact Below.refl _ _ | with_reducible apply Below.drew | with_reducible apply Geo.bel_alloc | (with_reducible refine Geo.bel_trans ?_ (by assumption)))⟩
      · have E : Inside.insB a0 a1 a2 a3 a4 a5 a6 a7 = false := Inside.insB_no (by omega)
        go_enter Try.func5, Try.ntmps5
        go_wp2_with (first | (go_at_call 14; ((with_reducible refine (Geo.box_at _ _ _ _ _ (by omega) (by omega) (by omega) (by omega)).mono ?_); rintro e w1 ⟨rfl, rfl⟩)) | (go_at_call 15; refine (Inside.inside_any _ _ _ _ _ _ _ _ _ (by omega) (by omega) (by omega) (by omega) (by omega) (by omega) (by omega) (by omega)).mono ?_; rintro e w1 ⟨rfl, hb⟩))
        go_ret
        exact ⟨by first | rfl | exact Nums.ret_bool (by simp; omega), by repeat (first | with_reducible exact Below.refl _ _ | with_reducible apply Below.drew | with_reducible apply Geo.bel_alloc | (with_reducible refine Geo.bel_trans ?_ (by assumption)))⟩

/-! ### THE ROW's STEP: WRITTEN OUT: LEAVE IT -/
set_option maxRecDepth 100000 in
theorem lifted (os : Os) (started : os.Started) (H : Type) (enc : TypeId × Value → H) :
    ReturnsInHanded {} Try.checked os 5 .any (Rows.fnInsideSpec.pre6 enc Try.prog Try.f5 Rows.fnInsideRow.domain false) (Rows.fnInsideSpec.post enc Try.prog Try.f5 false true false false) := by
  refine returnsInHanded_of_change (C := Try.checked) own started (by kernel_rfl) Try.func5
    (ChangeSpec.witness6 (enc := enc) (C := Try.checked) false ⟨#[], #[.int .i16 0, .int .i16 0, .int .i16 0, .int .i16 0, .int .i16 0, .int .i16 0, .int .i16 0, .int .i16 0], []⟩ 8 (by kernel_rfl) (by kernel_rfl) (by kernel_rfl) (by kernel_rfl)) ?_
  intro W base args ds gs before hval0 hW hcnd _
  have hval : ∀ (j : Nat) t v, Try.f5.params[j]? = some t → args[j]? = some v → Value.okWide Try.prog W .any base t v := hval0
  have hW' := hW
  obtain ⟨p, q, hA0, hV, rfl, hfz, hnd⟩ := hW
  have hA : DataW.TrodAll enc Try.prog W 0 (fun _ => true) true Try.f5.params.toList args.toList ds p := hA0
  rw [Try.params5] at hA hval
  obtain ⟨v0, vs0, d0, ds0, p0, q0, hargs, rfl, rfl, h0, r0⟩ := trodAll_cons hA
  obtain ⟨v1, vs1, d1, ds1, p1, q1, rfl, rfl, rfl, h1, r1⟩ := trodAll_cons r0
  obtain ⟨v2, vs2, d2, ds2, p2, q2, rfl, rfl, rfl, h2, r2⟩ := trodAll_cons r1
  obtain ⟨v3, vs3, d3, ds3, p3, q3, rfl, rfl, rfl, h3, r3⟩ := trodAll_cons r2
  obtain ⟨v4, vs4, d4, ds4, p4, q4, rfl, rfl, rfl, h4, r4⟩ := trodAll_cons r3
  obtain ⟨v5, vs5, d5, ds5, p5, q5, rfl, rfl, rfl, h5, r5⟩ := trodAll_cons r4
  obtain ⟨v6, vs6, d6, ds6, p6, q6, rfl, rfl, rfl, h6, r6⟩ := trodAll_cons r5
  obtain ⟨v7, vs7, d7, ds7, p7, q7, rfl, rfl, rfl, h7, r7⟩ := trodAll_cons r6
  obtain ⟨rfl, rfl, rfl⟩ := trodAll_nil r7
  obtain rfl : args = #[v0, v1, v2, v3, v4, v5, v6, v7] := by cases args; simp_all
  obtain ⟨rfl, rfl⟩ := trodVars_none hV
  obtain ⟨a0, rfl, rfl, rfl, w0⟩ := open_int Try.underlying24 (hval 0 24 v0 rfl rfl) h0
  obtain ⟨a1, rfl, rfl, rfl, w1⟩ := open_int Try.underlying24 (hval 1 24 v1 rfl rfl) h1
  obtain ⟨a2, rfl, rfl, rfl, w2⟩ := open_int Try.underlying24 (hval 2 24 v2 rfl rfl) h2
  obtain ⟨a3, rfl, rfl, rfl, w3⟩ := open_int Try.underlying24 (hval 3 24 v3 rfl rfl) h3
  obtain ⟨a4, rfl, rfl, rfl, w4⟩ := open_int Try.underlying24 (hval 4 24 v4 rfl rfl) h4
  obtain ⟨a5, rfl, rfl, rfl, w5⟩ := open_int Try.underlying24 (hval 5 24 v5 rfl rfl) h5
  obtain ⟨a6, rfl, rfl, rfl, w6⟩ := open_int Try.underlying24 (hval 6 24 v6 rfl rfl) h6
  obtain ⟨a7, rfl, rfl, rfl, w7⟩ := open_int Try.underlying24 (hval 7 24 v7 rfl rfl) h7
  clear hA0 hval0
  simp only [List.append_nil] at hW'
  refine (walk a0 a1 a2 a3 a4 a5 a6 a7 w0 w1 w2 w3 w4 w5 w6 w7 W).mono fun e W' ⟨he, hg⟩ => ?_
  subst he
  exact ⟨_, rfl, _, _, _, [], _, [], hW', trodAll_mk1 (shut_bool Try.underlying4 _), (trodAll_cons_mk (shut_int Try.underlying24 w0) (trodAll_cons_mk (shut_int Try.underlying24 w1) (trodAll_cons_mk (shut_int Try.underlying24 w2) (trodAll_cons_mk (shut_int Try.underlying24 w3) (trodAll_cons_mk (shut_int Try.underlying24 w4) (trodAll_cons_mk (shut_int Try.underlying24 w5) (trodAll_cons_mk (shut_int Try.underlying24 w6) (trodAll_cons_mk (shut_int Try.underlying24 w7) trodAll_mk0)))))))), rfl, hg.frame _, fun h => by cases h⟩

theorem over : Rows.fnInsideRow.holds Try.pinned (OpenSpec.ofChange Rows.fnInsideSpec) :=
  OpenClaim.holds_of_wide 5 Try.f5 rfl rfl rfl rfl rfl rfl rfl ⟨rfl, rfl, rfl, rfl, rfl⟩ rfl rfl rfl rfl rfl (by kernel_rfl) Try.func5 (by kernel_rfl)
    (of_decide_eq_true (by kernel_rfl)) (by unfold Func.isWrapper; first | (rw [if_pos (by decide +kernel)]; kernel_rfl) | (rw [if_neg (by decide +kernel)]; exact ⟨rfl, rfl⟩))
    (fun os started H enc _ => lifted os started H enc)

/-- ████ THE STATEMENT ████ -/
theorem proved : Rows.FnInsideSaid :=
  over
#print axioms proved
end Go.Proofs.Ytjpnobmgcgeofaa.fnInside
