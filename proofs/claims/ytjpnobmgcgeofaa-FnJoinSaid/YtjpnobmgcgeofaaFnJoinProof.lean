/-
  Two boxes are in their union, which is the least one, and of one without places it is the other: the statement FnJoin, for every input.
  The frame around the walk is the kit's shell (proof-skeleton.mjs).
-/
import Derived.Test.YtjpnobmgcgeofaaRows
import Derived.WalkKit
import Derived.ProofKit
import Derived.OpenShut
import Derived.ShutString
import Derived.ChangeOld
import Derived.Below
import Derived.Test.YtjpnobmgcgeofaaJoin2
import Derived.WalkLawsBesides
namespace Go.Proofs.Ytjpnobmgcgeofaa.fnJoin
open Go.ChangeShapes Go.WideShapes Go.ChangeAt Go.RowKit
open Go.ChangeMaps (open_string shut_string)
set_option linter.unusedVariables false      -- a walk need not use every 'w<i>' (that an integer argument fits its kind)

theorem own : ownKnob Try.prog.godebug = none := by kernel_rfl

theorem parts (a b c d e f g h : Int) : ∃ m0 m1 m2 m3 : Int, ((e < a ∧ m0 = e) ∨ (¬ e < a ∧ m0 = a)) ∧ ((f < b ∧ m1 = f) ∨ (¬ f < b ∧ m1 = b)) ∧ ((c < g ∧ m2 = g) ∨ (¬ c < g ∧ m2 = c)) ∧ ((d < h ∧ m3 = h) ∨ (¬ d < h ∧ m3 = d)) := by
  refine ⟨if e < a then e else a, if f < b then f else b, if c < g then g else c, if d < h then h else d, ?_, ?_, ?_, ?_⟩ <;> split <;> simp_all <;> omega
/-! ### STEP 1: THE WALK: the Go text returns true. 'Below w.heap.size w w'': the world has at most new blocks (Derived/RowKit3.lean). Part the cases AHEAD of 'go_enter' where a test parts the walk; take each callee by a contract of your own. -/
set_option maxHeartbeats 8000000 in
theorem walk (a0 : Int) (a1 : Int) (a2 : Int) (a3 : Int) (a4 : Int) (a5 : Int) (a6 : Int) (a7 : Int) (w0 : (Lit.int .i16 a0).wf = true) (w1 : (Lit.int .i16 a1).wf = true) (w2 : (Lit.int .i16 a2).wf = true) (w3 : (Lit.int .i16 a3).wf = true) (w4 : (Lit.int .i16 a4).wf = true) (w5 : (Lit.int .i16 a5).wf = true) (w6 : (Lit.int .i16 a6).wf = true) (w7 : (Lit.int .i16 a7).wf = true) (w : World) :
    Calls Try.prog 10 #[.int .i16 a0, .int .i16 a1, .int .i16 a2, .int .i16 a3, .int .i16 a4, .int .i16 a5, .int .i16 a6, .int .i16 a7] w fun e w' => e = .returned (.bool true) ∧ Below w.heap.size w w' := by
  have b0 := bounds_i16 w0
  have b1 := bounds_i16 w1
  have b2 := bounds_i16 w2
  have b3 := bounds_i16 w3
  have b4 := bounds_i16 w4
  have b5 := bounds_i16 w5
  have b6 := bounds_i16 w6
  have b7 := bounds_i16 w7
  clear w0 w1 w2 w3 w4 w5 w6 w7
  have Z : Geo.emptyB 0 0 0 0 = true := by simp [Geo.emptyB]
  cases hr : Geo.emptyB a0 a1 a2 a3
  · cases hs : Geo.emptyB a4 a5 a6 a7
    · obtain ⟨m0, m1, m2, m3, k0, k1, k2, k3⟩ := parts a0 a1 a2 a3 a4 a5 a6 a7
      have H := Lib.hid fun w => Join2.join_any a0 a1 a2 a3 a4 a5 a6 a7 m0 m1 m2 m3 w (by omega) (by omega) (by omega) (by omega) (by omega) (by omega) (by omega) (by omega) (by omega) (by omega) (by omega) (by omega) (Lib.hid fun w => Join.union_m a0 a1 a2 a3 a4 a5 a6 a7 m0 m1 m2 m3 w k0 k1 k2 k3 hr hs)
      have e0 := Lib.hid (show m0 = min a0 a4 by omega)
      have e1 := Lib.hid (show m1 = min a1 a5 by omega)
      have e2 := Lib.hid (show m2 = max a2 a6 by omega)
      have e3 := Lib.hid (show m3 = max a3 a7 by omega)
      clear k0 k1 k2 k3
      go_enter Try.func10, Try.ntmps10
      go_wp2_with (go_at_call 14; refine (Geo.box_at _ _ _ _ _ (by omega) (by omega) (by omega) (by omega)).mono ?_; rintro e w1 ⟨rfl, rfl⟩)
      refine (H.out _).mono ?_
      rintro e w1 ⟨rfl, h1⟩
      obtain ⟨hc1, hf1⟩ := Geo.bcell h1
      have hz1 : w.heap.size + 1 < w1.heap.size ∧ w.heap.size + 1 + 1 < w1.heap.size ∧ w.heap.size + 1 + 1 + 1 < w1.heap.size := by have := h1.size; simp at this; omega
      go_wp2_with fail
      refine (Geo.empty_any _ _ _ _ _ (by omega) (by omega) (by omega) (by omega)).mono ?_
      rw [hr]
      rintro e w2 ⟨rfl, h2⟩
      obtain ⟨hc2, hf2⟩ := Geo.bcell h2
      have hz2 : w1.heap.size < w2.heap.size ∧ w.heap.size + 1 + 1 < w2.heap.size ∧ w.heap.size + 1 + 1 + 1 < w2.heap.size := by have := h2.size; simp at this; omega
      go_wp2_with fail
      refine (Geo.empty_any _ _ _ _ _ (by omega) (by omega) (by omega) (by omega)).mono ?_
      rw [hs]
      rintro e w3 ⟨rfl, h3⟩
      obtain ⟨hc3, hf3⟩ := Geo.bcell h3
      have hz3 : w1.heap.size < w3.heap.size ∧ w.heap.size + 1 + 1 < w3.heap.size ∧ w.heap.size + 1 + 1 + 1 < w3.heap.size := by have := h3.size; omega
      go_wp2_with fail
      all_goals go_ret
      all_goals exact ⟨by first | rfl | exact Nums.ret_bool (by have := e0.out; have := e1.out; have := e2.out; have := e3.out; simp; omega), by repeat (first | with_reducible exact Below.refl _ _ | with_reducible apply Below.drew | with_reducible apply Geo.bel_alloc | (with_reducible refine Geo.bel_trans ?_ (by assumption)))⟩
    · have H := Lib.hid fun w => Join2.join_any a0 a1 a2 a3 a4 a5 a6 a7 a0 a1 a2 a3 w (by omega) (by omega) (by omega) (by omega) (by omega) (by omega) (by omega) (by omega) (by omega) (by omega) (by omega) (by omega) (Lib.hid fun w => Join.union_s a0 a1 a2 a3 a4 a5 a6 a7 w hr hs)
      go_enter Try.func10, Try.ntmps10
      go_wp2_with (go_at_call 14; refine (Geo.box_at _ _ _ _ _ (by omega) (by omega) (by omega) (by omega)).mono ?_; rintro e w1 ⟨rfl, rfl⟩)
      refine (H.out _).mono ?_
      rintro e w1 ⟨rfl, h1⟩
      obtain ⟨hc1, hf1⟩ := Geo.bcell h1
      have hz1 : w.heap.size + 1 < w1.heap.size ∧ w.heap.size + 1 + 1 < w1.heap.size ∧ w.heap.size + 1 + 1 + 1 < w1.heap.size := by have := h1.size; simp at this; omega
      go_wp2_with fail
      refine (Geo.empty_any _ _ _ _ _ (by omega) (by omega) (by omega) (by omega)).mono ?_
      rw [hr]
      rintro e w2 ⟨rfl, h2⟩
      obtain ⟨hc2, hf2⟩ := Geo.bcell h2
      have hz2 : w1.heap.size < w2.heap.size ∧ w.heap.size + 1 + 1 < w2.heap.size ∧ w.heap.size + 1 + 1 + 1 < w2.heap.size := by have := h2.size; simp at this; omega
      go_wp2_with fail
      refine (Geo.empty_any _ _ _ _ _ (by omega) (by omega) (by omega) (by omega)).mono ?_
      rw [hs]
      rintro e w3 ⟨rfl, h3⟩
      obtain ⟨hc3, hf3⟩ := Geo.bcell h3
      have hz3 : w1.heap.size < w3.heap.size ∧ w.heap.size + 1 + 1 < w3.heap.size ∧ w.heap.size + 1 + 1 + 1 < w3.heap.size := by have := h3.size; omega
      go_wp2_with fail
      go_ret
      exact ⟨rfl, by repeat (first | with_reducible exact Below.refl _ _ | with_reducible apply Below.drew | with_reducible apply Geo.bel_alloc | (with_reducible refine Geo.bel_trans ?_ (by assumption)))⟩
  · have H := Lib.hid fun w => Join2.join_any a0 a1 a2 a3 a4 a5 a6 a7 a4 a5 a6 a7 w (by omega) (by omega) (by omega) (by omega) (by omega) (by omega) (by omega) (by omega) (by omega) (by omega) (by omega) (by omega) (Lib.hid fun w => Join.union_r a0 a1 a2 a3 a4 a5 a6 a7 w hr)
    go_enter Try.func10, Try.ntmps10
    go_wp2_with (go_at_call 14; refine (Geo.box_at _ _ _ _ _ (by omega) (by omega) (by omega) (by omega)).mono ?_; rintro e w1 ⟨rfl, rfl⟩)
    refine (H.out _).mono ?_
    rintro e w1 ⟨rfl, h1⟩
    obtain ⟨hc1, hf1⟩ := Geo.bcell h1
    have hz1 : w.heap.size + 1 < w1.heap.size ∧ w.heap.size + 1 + 1 < w1.heap.size ∧ w.heap.size + 1 + 1 + 1 < w1.heap.size := by have := h1.size; simp at this; omega
    go_wp2_with fail
    refine (Geo.empty_any _ _ _ _ _ (by omega) (by omega) (by omega) (by omega)).mono ?_
    rw [hr]
    rintro e w2 ⟨rfl, h2⟩
    obtain ⟨hc2, hf2⟩ := Geo.bcell h2
    have hz2 : w1.heap.size < w2.heap.size ∧ w.heap.size + 1 + 1 < w2.heap.size ∧ w.heap.size + 1 + 1 + 1 < w2.heap.size := by have := h2.size; simp at this; omega
    go_wp2_with fail
    refine (Geo.empty_any _ _ _ _ _ (by omega) (by omega) (by omega) (by omega)).mono ?_
    rw [Z]
    rintro e w3 ⟨rfl, h3⟩
    go_wp2_with fail
    go_ret
    exact ⟨rfl, by repeat (first | with_reducible exact Below.refl _ _ | with_reducible apply Below.drew | with_reducible apply Geo.bel_alloc | (with_reducible refine Geo.bel_trans ?_ (by assumption)))⟩

/-! ### THE ROW's STEP: WRITTEN OUT: LEAVE IT -/
set_option maxRecDepth 100000 in
theorem lifted (os : Os) (started : os.Started) (H : Type) (enc : TypeId × Value → H) :
    ReturnsInHanded {} Try.checked os 10 .any (Rows.fnJoinSpec.pre6 enc Try.prog Try.f10 Rows.fnJoinRow.domain false) (Rows.fnJoinSpec.post enc Try.prog Try.f10 false true false false) := by
  refine returnsInHanded_of_change (C := Try.checked) own started (by kernel_rfl) Try.func10
    (ChangeSpec.witness6 (enc := enc) (C := Try.checked) false ⟨#[], #[.int .i16 0, .int .i16 0, .int .i16 0, .int .i16 0, .int .i16 0, .int .i16 0, .int .i16 0, .int .i16 0], []⟩ 8 (by kernel_rfl) (by kernel_rfl) (by kernel_rfl) (by kernel_rfl)) ?_
  intro W base args ds gs before hval0 hW hcnd _
  have hval : ∀ (j : Nat) t v, Try.f10.params[j]? = some t → args[j]? = some v → Value.okWide Try.prog W .any base t v := hval0
  have hW' := hW
  obtain ⟨p, q, hA0, hV, rfl, hfz, hnd⟩ := hW
  have hA : DataW.TrodAll enc Try.prog W 0 (fun _ => true) true Try.f10.params.toList args.toList ds p := hA0
  rw [Try.params10] at hA hval
  obtain ⟨v0, vs0, d0, ds0, p0, q0, hargs, rfl, rfl, h0, r0⟩ := trodAll_cons hA
  obtain ⟨v1, vs1, d1, ds1, p1, q1, rfl, rfl, rfl, h1, r1⟩ := trodAll_cons r0
  obtain ⟨v2, vs2, d2, ds2, p2, q2, rfl, rfl, rfl, h2, r2⟩ := trodAll_cons r1
  obtain ⟨v3, vs3, d3, ds3, p3, q3, rfl, rfl, rfl, h3, r3⟩ := trodAll_cons r2
  obtain ⟨v4, vs4, d4, ds4, p4, q4, rfl, rfl, rfl, h4, r4⟩ := trodAll_cons r3
  obtain ⟨v5, vs5, d5, ds5, p5, q5, rfl, rfl, rfl, h5, r5⟩ := trodAll_cons r4
  obtain ⟨v6, vs6, d6, ds6, p6, q6, rfl, rfl, rfl, h6, r6⟩ := trodAll_cons r5
  obtain ⟨v7, vs7, d7, ds7, p7, q7, rfl, rfl, rfl, h7, r7⟩ := trodAll_cons r6
  obtain ⟨rfl, rfl, rfl⟩ := trodAll_nil r7
  obtain rfl : args = #[v0, v1, v2, v3, v4, v5, v6, v7] := by cases args; simp_all
  obtain ⟨rfl, rfl⟩ := trodVars_none hV
  obtain ⟨a0, rfl, rfl, rfl, w0⟩ := open_int Try.underlying24 (hval 0 24 v0 rfl rfl) h0
  obtain ⟨a1, rfl, rfl, rfl, w1⟩ := open_int Try.underlying24 (hval 1 24 v1 rfl rfl) h1
  obtain ⟨a2, rfl, rfl, rfl, w2⟩ := open_int Try.underlying24 (hval 2 24 v2 rfl rfl) h2
  obtain ⟨a3, rfl, rfl, rfl, w3⟩ := open_int Try.underlying24 (hval 3 24 v3 rfl rfl) h3
  obtain ⟨a4, rfl, rfl, rfl, w4⟩ := open_int Try.underlying24 (hval 4 24 v4 rfl rfl) h4
  obtain ⟨a5, rfl, rfl, rfl, w5⟩ := open_int Try.underlying24 (hval 5 24 v5 rfl rfl) h5
  obtain ⟨a6, rfl, rfl, rfl, w6⟩ := open_int Try.underlying24 (hval 6 24 v6 rfl rfl) h6
  obtain ⟨a7, rfl, rfl, rfl, w7⟩ := open_int Try.underlying24 (hval 7 24 v7 rfl rfl) h7
  clear hA0 hval0
  simp only [List.append_nil] at hW'
  refine (walk a0 a1 a2 a3 a4 a5 a6 a7 w0 w1 w2 w3 w4 w5 w6 w7 W).mono fun e W' ⟨he, hg⟩ => ?_
  subst he
  exact ⟨_, rfl, _, _, _, [], _, [], hW', trodAll_mk1 (shut_bool Try.underlying4 _), (trodAll_cons_mk (shut_int Try.underlying24 w0) (trodAll_cons_mk (shut_int Try.underlying24 w1) (trodAll_cons_mk (shut_int Try.underlying24 w2) (trodAll_cons_mk (shut_int Try.underlying24 w3) (trodAll_cons_mk (shut_int Try.underlying24 w4) (trodAll_cons_mk (shut_int Try.underlying24 w5) (trodAll_cons_mk (shut_int Try.underlying24 w6) (trodAll_cons_mk (shut_int Try.underlying24 w7) trodAll_mk0)))))))), rfl, hg.frame _, fun h => by cases h⟩

theorem over : Rows.fnJoinRow.holds Try.pinned (OpenSpec.ofChange Rows.fnJoinSpec) :=
  OpenClaim.holds_of_wide 10 Try.f10 rfl rfl rfl rfl rfl rfl rfl ⟨rfl, rfl, rfl, rfl, rfl⟩ rfl rfl rfl rfl rfl (by kernel_rfl) Try.func10 (by kernel_rfl)
    (of_decide_eq_true (by kernel_rfl)) (by unfold Func.isWrapper; first | (rw [if_pos (by decide +kernel)]; kernel_rfl) | (rw [if_neg (by decide +kernel)]; exact ⟨rfl, rfl⟩))
    (fun os started H enc _ => lifted os started H enc)

/-- ████ THE STATEMENT ████ -/
theorem proved : Rows.FnJoinSaid :=
  over
#print axioms proved
end Go.Proofs.Ytjpnobmgcgeofaa.fnJoin
