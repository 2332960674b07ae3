/-
  A place is in the meeting of two boxes exactly if it is in both: the statement FnMeet, for every input.
  The frame around the walk is the kit's shell (proof-skeleton.mjs).
-/
import Derived.Test.YtjpnobmgcgeofaaRows
import Derived.WalkKit
import Derived.ProofKit
import Derived.OpenShut
import Derived.ShutString
import Derived.ChangeOld
import Derived.Below
import Derived.Test.YtjpnobmgcgeofaaMeet2
namespace Go.Proofs.Ytjpnobmgcgeofaa.fnMeet
open Go.ChangeShapes Go.WideShapes Go.ChangeAt Go.RowKit
open Go.ChangeMaps (open_string shut_string)
set_option linter.unusedVariables false      -- a walk need not use every 'w<i>' (that an integer argument fits its kind)

theorem own : ownKnob Try.prog.godebug = none := by kernel_rfl

/-- the meeting of two boxes, by its four numbers -/
theorem parts (a b c d e f g h : Int) : ∃ m0 m1 m2 m3 : Int, ((a < e ∧ m0 = e) ∨ (¬ a < e ∧ m0 = a)) ∧ ((b < f ∧ m1 = f) ∨ (¬ b < f ∧ m1 = b)) ∧ ((g < c ∧ m2 = g) ∨ (¬ g < c ∧ m2 = c)) ∧ ((h < d ∧ m3 = h) ∨ (¬ h < d ∧ m3 = d)) := by
  refine ⟨if a < e then e else a, if b < f then f else b, if g < c then g else c, if h < d then h else d, ?_, ?_, ?_, ?_⟩ <;> split <;> simp_all <;> omega
/-- the meeting, whether it has a place or not: a box whose places are those of both -/
theorem meets (a b c d e f g h : Int) (ba : -32768 ≤ a ∧ a ≤ 32767) (bb : -32768 ≤ b ∧ b ≤ 32767) (bc : -32768 ≤ c ∧ c ≤ 32767) (bd : -32768 ≤ d ∧ d ≤ 32767)
    (be : -32768 ≤ e ∧ e ≤ 32767) (bf : -32768 ≤ f ∧ f ≤ 32767) (bg : -32768 ≤ g ∧ g ≤ 32767) (bh : -32768 ≤ h ∧ h ≤ 32767) :
    ∃ r0 r1 r2 r3 : Int, (∀ x y : Int, Geo.inB x y r0 r1 r2 r3 = (Geo.inB x y a b c d && Geo.inB x y e f g h)) ∧
      ∀ w : World, Calls Try.prog 21 #[.agg #[.int .i64 a, .int .i64 b, .int .i64 c, .int .i64 d], .agg #[.int .i64 e, .int .i64 f, .int .i64 g, .int .i64 h]] w fun e' w' => e' = .returned (.agg #[.int .i64 r0, .int .i64 r1, .int .i64 r2, .int .i64 r3]) ∧ Below w.heap.size w w' := by
  obtain ⟨m0, m1, m2, m3, k0, k1, k2, k3⟩ := parts a b c d e f g h
  by_cases E : m2 ≤ m0 ∨ m3 ≤ m1
  · have hE : Geo.emptyB m0 m1 m2 m3 = true := by
      simp only [Geo.emptyB, Bool.or_eq_true, decide_eq_true_eq]
      exact E
    refine ⟨0, 0, 0, 0, fun x y => ?_, fun w => Meet2.meet_any a b c d e f g h 0 0 0 0 w (by omega) (by omega) (by omega) (by omega) (by omega) (by omega) (by omega) (by omega) (by omega) (by omega) (by omega) (by omega)
      (Lib.hid fun w => Meet.inter_yes_any a b c d e f g h m0 m1 m2 m3 w k0 k1 k2 k3 hE)⟩
    rw [Geo.inB_no (by omega)]
    symm
    rw [← Bool.not_eq_true, Bool.and_eq_true]
    rintro ⟨p, q⟩
    simp only [Geo.inB, Bool.and_eq_true, decide_eq_true_eq] at p q
    omega
  · have hE : Geo.emptyB m0 m1 m2 m3 = false := by
      rw [← Bool.not_eq_true]
      simp only [Geo.emptyB, Bool.or_eq_true, decide_eq_true_eq]
      exact E
    refine ⟨m0, m1, m2, m3, fun x y => ?_, fun w => Meet2.meet_any a b c d e f g h m0 m1 m2 m3 w (by omega) (by omega) (by omega) (by omega) (by omega) (by omega) (by omega) (by omega) (by omega) (by omega) (by omega) (by omega)
      (Lib.hid fun w => Meet.inter_no_any a b c d e f g h m0 m1 m2 m3 w k0 k1 k2 k3 hE)⟩
    rw [Bool.eq_iff_iff, Bool.and_eq_true]
    simp only [Geo.inB, Bool.and_eq_true, decide_eq_true_eq]
    omega
theorem meet_const (w : World) : Calls Try.prog 21 #[.agg #[.int .i64 0, .int .i64 0, .int .i64 2, .int .i64 2], .agg #[.int .i64 1, .int .i64 1, .int .i64 3, .int .i64 3]] w fun e' w' => e' = .returned (.agg #[.int .i64 1, .int .i64 1, .int .i64 2, .int .i64 2]) ∧ Below w.heap.size w w' :=
  Meet2.meet_any 0 0 2 2 1 1 3 3 1 1 2 2 w (by omega) (by omega) (by omega) (by omega) (by omega) (by omega) (by omega) (by omega) (by omega) (by omega) (by omega) (by omega)
      (Lib.hid fun w => Meet.inter_no_any 0 0 2 2 1 1 3 3 1 1 2 2 w (by omega) (by omega) (by omega) (by omega) (by decide))
/-! ### STEP 1: THE WALK: the Go text returns true. 'Below w.heap.size w w'': the world has at most new blocks (Derived/RowKit3.lean). Part the cases AHEAD of 'go_enter' where a test parts the walk; take each callee by a contract of your own. -/
set_option maxHeartbeats 8000000 in
theorem walk (a0 : Int) (a1 : Int) (a2 : Int) (a3 : Int) (a4 : Int) (a5 : Int) (a6 : Int) (a7 : Int) (a8 : Int) (a9 : Int) (w0 : (Lit.int .i16 a0).wf = true) (w1 : (Lit.int .i16 a1).wf = true) (w2 : (Lit.int .i16 a2).wf = true) (w3 : (Lit.int .i16 a3).wf = true) (w4 : (Lit.int .i16 a4).wf = true) (w5 : (Lit.int .i16 a5).wf = true) (w6 : (Lit.int .i16 a6).wf = true) (w7 : (Lit.int .i16 a7).wf = true) (w8 : (Lit.int .i16 a8).wf = true) (w9 : (Lit.int .i16 a9).wf = true) (w : World) :
    Calls Try.prog 9 #[.int .i16 a0, .int .i16 a1, .int .i16 a2, .int .i16 a3, .int .i16 a4, .int .i16 a5, .int .i16 a6, .int .i16 a7, .int .i16 a8, .int .i16 a9] w fun e w' => e = .returned (.bool true) ∧ Below w.heap.size w w' := by
  have b0 := bounds_i16 w0
  have b1 := bounds_i16 w1
  have b2 := bounds_i16 w2
  have b3 := bounds_i16 w3
  have b4 := bounds_i16 w4
  have b5 := bounds_i16 w5
  have b6 := bounds_i16 w6
  have b7 := bounds_i16 w7
  have b8 := bounds_i16 w8
  have b9 := bounds_i16 w9
  clear w0 w1 w2 w3 w4 w5 w6 w7 w8 w9
  obtain ⟨r0, r1, r2, r3, L, H0⟩ := meets a0 a1 a2 a3 a4 a5 a6 a7 b0 b1 b2 b3 b4 b5 b6 b7
  have H := Lib.hid H0
  clear H0
  have L0 := L a8 a9
  clear L
  cases hr : Geo.inB a8 a9 a0 a1 a2 a3
  · rw [hr, Bool.false_and] at L0
    go_enter Try.func9, Try.ntmps9
    go_wp2_with (go_at_call 14; refine (Geo.box_at _ _ _ _ _ (by omega) (by omega) (by omega) (by omega)).mono ?_; rintro e w1 ⟨rfl, rfl⟩)
    refine (H.out _).mono ?_
    rintro e w1 ⟨rfl, h1⟩
    obtain ⟨hc1, hf1⟩ := Geo.bcell h1
    have hz1 : w.heap.size + 1 + 1 < w1.heap.size ∧ w.heap.size + 1 + 1 + 1 < w1.heap.size := by have := h1.size; simp at this; omega
    go_wp2_with fail
    refine (Geo.has_any _ _ _ _ _ _ _).mono ?_
    rintro e w2 ⟨rfl, h2⟩
    obtain ⟨hc2, hf2⟩ := Geo.bcell h2
    have hz2 : w1.heap.size < w2.heap.size := by have := h2.size; simp at this; omega
    go_wp2_with fail
    refine (Geo.has_any _ _ _ _ _ _ _).mono ?_
    rintro e w4 ⟨rfl, h4⟩
    go_wp2_with fail
    refine (meet_const _).mono ?_
    rintro e w5 ⟨rfl, h5⟩
    go_wp2_with fail
    go_ret
    exact ⟨rfl, by repeat (first | with_reducible exact Below.refl _ _ | with_reducible apply Below.drew | with_reducible apply Geo.bel_alloc | (with_reducible refine Geo.bel_trans ?_ (by assumption)))⟩
  · rw [hr, Bool.true_and] at L0
    go_enter Try.func9, Try.ntmps9
    go_wp2_with (go_at_call 14; refine (Geo.box_at _ _ _ _ _ (by omega) (by omega) (by omega) (by omega)).mono ?_; rintro e w1 ⟨rfl, rfl⟩)
    refine (H.out _).mono ?_
    rintro e w1 ⟨rfl, h1⟩
    obtain ⟨hc1, hf1⟩ := Geo.bcell h1
    have hz1 : w.heap.size + 1 + 1 < w1.heap.size ∧ w.heap.size + 1 + 1 + 1 < w1.heap.size := by have := h1.size; simp at this; omega
    go_wp2_with fail
    refine (Geo.has_any _ _ _ _ _ _ _).mono ?_
    rintro e w2 ⟨rfl, h2⟩
    obtain ⟨hc2, hf2⟩ := Geo.bcell h2
    have hz2 : w1.heap.size < w2.heap.size := by have := h2.size; simp at this; omega
    go_wp2_with fail
    refine (Geo.has_any _ _ _ _ _ _ _).mono ?_
    rintro e w3 ⟨rfl, h3⟩
    obtain ⟨hc3, hf3⟩ := Geo.bcell h3
    have hz3 : w1.heap.size < w3.heap.size := by have := h3.size; omega
    go_wp2_with fail
    refine (Geo.has_any _ _ _ _ _ _ _).mono ?_
    rintro e w4 ⟨rfl, h4⟩
    go_wp2_with fail
    refine (meet_const _).mono ?_
    rintro e w5 ⟨rfl, h5⟩
    go_wp2_with fail
    go_ret
    exact ⟨rfl, by repeat (first | with_reducible exact Below.refl _ _ | with_reducible apply Below.drew | with_reducible apply Geo.bel_alloc | (with_reducible refine Geo.bel_trans ?_ (by assumption)))⟩

/-! ### THE ROW's STEP: WRITTEN OUT: LEAVE IT -/
set_option maxRecDepth 100000 in
theorem lifted (os : Os) (started : os.Started) (H : Type) (enc : TypeId × Value → H) :
    ReturnsInHanded {} Try.checked os 9 .any (Rows.fnMeetSpec.pre6 enc Try.prog Try.f9 Rows.fnMeetRow.domain false) (Rows.fnMeetSpec.post enc Try.prog Try.f9 false true false false) := by
  refine returnsInHanded_of_change (C := Try.checked) own started (by kernel_rfl) Try.func9
    (ChangeSpec.witness6 (enc := enc) (C := Try.checked) false ⟨#[], #[.int .i16 0, .int .i16 0, .int .i16 0, .int .i16 0, .int .i16 0, .int .i16 0, .int .i16 0, .int .i16 0, .int .i16 0, .int .i16 0], []⟩ 8 (by kernel_rfl) (by kernel_rfl) (by kernel_rfl) (by kernel_rfl)) ?_
  intro W base args ds gs before hval0 hW hcnd _
  have hval : ∀ (j : Nat) t v, Try.f9.params[j]? = some t → args[j]? = some v → Value.okWide Try.prog W .any base t v := hval0
  have hW' := hW
  obtain ⟨p, q, hA0, hV, rfl, hfz, hnd⟩ := hW
  have hA : DataW.TrodAll enc Try.prog W 0 (fun _ => true) true Try.f9.params.toList args.toList ds p := hA0
  rw [Try.params9] at hA hval
  obtain ⟨v0, vs0, d0, ds0, p0, q0, hargs, rfl, rfl, h0, r0⟩ := trodAll_cons hA
  obtain ⟨v1, vs1, d1, ds1, p1, q1, rfl, rfl, rfl, h1, r1⟩ := trodAll_cons r0
  obtain ⟨v2, vs2, d2, ds2, p2, q2, rfl, rfl, rfl, h2, r2⟩ := trodAll_cons r1
  obtain ⟨v3, vs3, d3, ds3, p3, q3, rfl, rfl, rfl, h3, r3⟩ := trodAll_cons r2
  obtain ⟨v4, vs4, d4, ds4, p4, q4, rfl, rfl, rfl, h4, r4⟩ := trodAll_cons r3
  obtain ⟨v5, vs5, d5, ds5, p5, q5, rfl, rfl, rfl, h5, r5⟩ := trodAll_cons r4
  obtain ⟨v6, vs6, d6, ds6, p6, q6, rfl, rfl, rfl, h6, r6⟩ := trodAll_cons r5
  obtain ⟨v7, vs7, d7, ds7, p7, q7, rfl, rfl, rfl, h7, r7⟩ := trodAll_cons r6
  obtain ⟨v8, vs8, d8, ds8, p8, q8, rfl, rfl, rfl, h8, r8⟩ := trodAll_cons r7
  obtain ⟨v9, vs9, d9, ds9, p9, q9, rfl, rfl, rfl, h9, r9⟩ := trodAll_cons r8
  obtain ⟨rfl, rfl, rfl⟩ := trodAll_nil r9
  obtain rfl : args = #[v0, v1, v2, v3, v4, v5, v6, v7, v8, v9] := by cases args; simp_all
  obtain ⟨rfl, rfl⟩ := trodVars_none hV
  obtain ⟨a0, rfl, rfl, rfl, w0⟩ := open_int Try.underlying24 (hval 0 24 v0 rfl rfl) h0
  obtain ⟨a1, rfl, rfl, rfl, w1⟩ := open_int Try.underlying24 (hval 1 24 v1 rfl rfl) h1
  obtain ⟨a2, rfl, rfl, rfl, w2⟩ := open_int Try.underlying24 (hval 2 24 v2 rfl rfl) h2
  obtain ⟨a3, rfl, rfl, rfl, w3⟩ := open_int Try.underlying24 (hval 3 24 v3 rfl rfl) h3
  obtain ⟨a4, rfl, rfl, rfl, w4⟩ := open_int Try.underlying24 (hval 4 24 v4 rfl rfl) h4
  obtain ⟨a5, rfl, rfl, rfl, w5⟩ := open_int Try.underlying24 (hval 5 24 v5 rfl rfl) h5
  obtain ⟨a6, rfl, rfl, rfl, w6⟩ := open_int Try.underlying24 (hval 6 24 v6 rfl rfl) h6
  obtain ⟨a7, rfl, rfl, rfl, w7⟩ := open_int Try.underlying24 (hval 7 24 v7 rfl rfl) h7
  obtain ⟨a8, rfl, rfl, rfl, w8⟩ := open_int Try.underlying24 (hval 8 24 v8 rfl rfl) h8
  obtain ⟨a9, rfl, rfl, rfl, w9⟩ := open_int Try.underlying24 (hval 9 24 v9 rfl rfl) h9
  clear hA0 hval0
  simp only [List.append_nil] at hW'
  refine (walk a0 a1 a2 a3 a4 a5 a6 a7 a8 a9 w0 w1 w2 w3 w4 w5 w6 w7 w8 w9 W).mono fun e W' ⟨he, hg⟩ => ?_
  subst he
  exact ⟨_, rfl, _, _, _, [], _, [], hW', trodAll_mk1 (shut_bool Try.underlying4 _), (trodAll_cons_mk (shut_int Try.underlying24 w0) (trodAll_cons_mk (shut_int Try.underlying24 w1) (trodAll_cons_mk (shut_int Try.underlying24 w2) (trodAll_cons_mk (shut_int Try.underlying24 w3) (trodAll_cons_mk (shut_int Try.underlying24 w4) (trodAll_cons_mk (shut_int Try.underlying24 w5) (trodAll_cons_mk (shut_int Try.underlying24 w6) (trodAll_cons_mk (shut_int Try.underlying24 w7) (trodAll_cons_mk (shut_int Try.underlying24 w8) (trodAll_cons_mk (shut_int Try.underlying24 w9) trodAll_mk0)))))))))), rfl, hg.frame _, fun h => by cases h⟩

theorem over : Rows.fnMeetRow.holds Try.pinned (OpenSpec.ofChange Rows.fnMeetSpec) :=
  OpenClaim.holds_of_wide 9 Try.f9 rfl rfl rfl rfl rfl rfl rfl ⟨rfl, rfl, rfl, rfl, rfl⟩ rfl rfl rfl rfl rfl (by kernel_rfl) Try.func9 (by kernel_rfl)
    (of_decide_eq_true (by kernel_rfl)) (by unfold Func.isWrapper; first | (rw [if_pos (by decide +kernel)]; kernel_rfl) | (rw [if_neg (by decide +kernel)]; exact ⟨rfl, rfl⟩))
    (fun os started H enc _ => lifted os started H enc)

/-- ████ THE STATEMENT ████ -/
theorem proved : Rows.FnMeetSaid :=
  over
#print axioms proved
end Go.Proofs.Ytjpnobmgcgeofaa.fnMeet
