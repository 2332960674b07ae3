/-
  A place, its numbers times numbers of 14 bits behind the point, and moved: the statement FnTransform, for every input.
  The frame around the walk is the kit's shell (proof-skeleton.mjs).
-/
import Derived.Test.YtjpnobmgcgeofaaRows
import Derived.WalkKit
import Derived.ProofKit
import Derived.OpenShut
import Derived.ShutString
import Derived.ChangeOld
import Derived.Below
import Derived.Test.YtjpnobmgcgeofaaTform
import Derived.Deep.DeepCutAuto
namespace Go.Proofs.Ytjpnobmgcgeofaa.fnTransform
open Go.ChangeShapes Go.WideShapes Go.ChangeAt Go.RowKit
open Go.ChangeMaps (open_string shut_string)
set_option linter.unusedVariables false      -- a walk need not use every 'w<i>' (that an integer argument fits its kind)

theorem own : ownKnob Try.prog.godebug = none := by kernel_rfl

/-! ### STEP 1: THE WALK: the Go text returns true. 'Below w.heap.size w w'': the world has at most new blocks (Derived/RowKit3.lean). Part the cases AHEAD of 'go_enter' where a test parts the walk; take each callee by a contract of your own. -/
set_option maxHeartbeats 8000000 in
theorem walk (a0 : Int) (a1 : Int) (a2 : Int) (a3 : Int) (a4 : Int) (a5 : Int) (a6 : Int) (a7 : Int) (w0 : (Lit.int .i8 a0).wf = true) (w1 : (Lit.int .i8 a1).wf = true) (w2 : (Lit.int .i8 a2).wf = true) (w3 : (Lit.int .i8 a3).wf = true) (w4 : (Lit.int .i16 a4).wf = true) (w5 : (Lit.int .i16 a5).wf = true) (w6 : (Lit.int .i16 a6).wf = true) (w7 : (Lit.int .i16 a7).wf = true) (w : World) :
    Calls Try.prog 6 #[.int .i8 a0, .int .i8 a1, .int .i8 a2, .int .i8 a3, .int .i16 a4, .int .i16 a5, .int .i16 a6, .int .i16 a7] w fun e w' => e = .returned (.bool true) ∧ Below w.heap.size w w' := by
  have b0 := bounds_i8 w0
  have b1 := bounds_i8 w1
  have b2 := bounds_i8 w2
  have b3 := bounds_i8 w3
  have b4 := bounds_i16 w4
  have b5 := bounds_i16 w5
  have b6 := bounds_i16 w6
  have b7 := bounds_i16 w7
  clear w0 w1 w2 w3 w4 w5 w6 w7
  have l0 := Int.lt_tmod_of_pos a0 (b := 8) (by omega)
  have u0 := Int.tmod_lt_of_pos a0 (b := 8) (by omega)
  have s0 : IntKind.i64.wrap (a0.tmod 8 * 4096) = a0.tmod 8 * 4096 := IntWalk.i64_in _ (by omega)
  have t0 : IntKind.i16.wrap (a0.tmod 8 * 4096) = a0.tmod 8 * 4096 := IntWalk.i16_in _ (by omega)
  have l1 := Int.lt_tmod_of_pos a1 (b := 8) (by omega)
  have u1 := Int.tmod_lt_of_pos a1 (b := 8) (by omega)
  have s1 : IntKind.i64.wrap (a1.tmod 8 * 4096) = a1.tmod 8 * 4096 := IntWalk.i64_in _ (by omega)
  have t1 : IntKind.i16.wrap (a1.tmod 8 * 4096) = a1.tmod 8 * 4096 := IntWalk.i16_in _ (by omega)
  have l2 := Int.lt_tmod_of_pos a2 (b := 8) (by omega)
  have u2 := Int.tmod_lt_of_pos a2 (b := 8) (by omega)
  have s2 : IntKind.i64.wrap (a2.tmod 8 * 4096) = a2.tmod 8 * 4096 := IntWalk.i64_in _ (by omega)
  have t2 : IntKind.i16.wrap (a2.tmod 8 * 4096) = a2.tmod 8 * 4096 := IntWalk.i16_in _ (by omega)
  have l3 := Int.lt_tmod_of_pos a3 (b := 8) (by omega)
  have u3 := Int.tmod_lt_of_pos a3 (b := 8) (by omega)
  have s3 : IntKind.i64.wrap (a3.tmod 8 * 4096) = a3.tmod 8 * 4096 := IntWalk.i64_in _ (by omega)
  have t3 : IntKind.i16.wrap (a3.tmod 8 * 4096) = a3.tmod 8 * 4096 := IntWalk.i16_in _ (by omega)
  have v4 : IntKind.i64.wrap a4 = a4 := IntWalk.i64_in _ (by omega)
  have v5 : IntKind.i64.wrap a5 = a5 := IntWalk.i64_in _ (by omega)
  have v6 : IntKind.i64.wrap a6 = a6 := IntWalk.i64_in _ (by omega)
  have v7 : IntKind.i64.wrap a7 = a7 := IntWalk.i64_in _ (by omega)
  have m0 := Nums.mul_bd (a0.tmod 8) a6 7 32768 (by omega) (by omega)
  have wm0 : IntKind.i64.wrap (a0.tmod 8 * a6) = a0.tmod 8 * a6 := IntWalk.i64_in _ (by omega)
  have Bm0 := Nums.mul_bd (4 * a6) (a0.tmod 8 * 4096) 131072 28672 (by omega) (by omega)
  have m1 := Nums.mul_bd (a1.tmod 8) a6 7 32768 (by omega) (by omega)
  have wm1 : IntKind.i64.wrap (a1.tmod 8 * a6) = a1.tmod 8 * a6 := IntWalk.i64_in _ (by omega)
  have Bm1 := Nums.mul_bd (4 * a6) (a1.tmod 8 * 4096) 131072 28672 (by omega) (by omega)
  have m2 := Nums.mul_bd (a2.tmod 8) a7 7 32768 (by omega) (by omega)
  have wm2 : IntKind.i64.wrap (a2.tmod 8 * a7) = a2.tmod 8 * a7 := IntWalk.i64_in _ (by omega)
  have Bm2 := Nums.mul_bd (4 * a7) (a2.tmod 8 * 4096) 131072 28672 (by omega) (by omega)
  have m3 := Nums.mul_bd (a3.tmod 8) a7 7 32768 (by omega) (by omega)
  have wm3 : IntKind.i64.wrap (a3.tmod 8 * a7) = a3.tmod 8 * a7 := IntWalk.i64_in _ (by omega)
  have Bm3 := Nums.mul_bd (4 * a7) (a3.tmod 8 * 4096) 131072 28672 (by omega) (by omega)
  have x1 : IntKind.i64.wrap (a4 + a0.tmod 8 * a6) = a4 + a0.tmod 8 * a6 := IntWalk.i64_in _ (by omega)
  have x2 : IntKind.i64.wrap (a4 + a0.tmod 8 * a6 + a2.tmod 8 * a7) = a4 + a0.tmod 8 * a6 + a2.tmod 8 * a7 := IntWalk.i64_in _ (by omega)
  have y1 : IntKind.i64.wrap (a5 + a1.tmod 8 * a6) = a5 + a1.tmod 8 * a6 := IntWalk.i64_in _ (by omega)
  have y2 : IntKind.i64.wrap (a5 + a1.tmod 8 * a6 + a3.tmod 8 * a7) = a5 + a1.tmod 8 * a6 + a3.tmod 8 * a7 := IntWalk.i64_in _ (by omega)
  have Q1 := Tform.quarters a4 (a0.tmod 8) a6 (a2.tmod 8) a7
  have Q2 := Tform.quarters a5 (a1.tmod 8) a6 (a3.tmod 8) a7
  go_enter Try.func6, Try.ntmps6
  go_upto_region 3 with fail
  go_cut [19] (fun s19 wx => ∃ g : Nat, s19 = .pointer (some ⟨g, 0, none⟩) ∧ wx.cell? ⟨g, 0, none⟩ = some (.int .i64 (a4 + a0.tmod 8 * a6 + a2.tmod 8 * a7)) ∧ wx.cell? ⟨g, 1, none⟩ = some (.int .i64 (a5 + a1.tmod 8 * a6 + a3.tmod 8 * a7)) ∧ Below w.heap.size w wx)
  case first =>
    go_region_held3 (fun w' => w'.cell? ⟨w.heap.size, 0, none⟩ = some (.int .i64 (4 * a6)) ∧ w'.cell? ⟨w.heap.size, 1, none⟩ = some (.int .i64 (4 * a7)))
      ((refine ⟨?_, ?_⟩ <;> go_simp))
      (first | (go_at_call 16; refine (Tform.turn_any _ _).mono ?_; rintro e w' ⟨rfl, rfl⟩) | (go_at_call 17; refine (Tform.transform_at _ _ _ _ _ _ _ _ _ (by omega) (by omega) (by omega) (by omega) (by omega) (by omega) (by omega) (by omega) (by omega) (by omega) (by omega) (by omega)).mono ?_; rintro e w1 ⟨rfl, rfl⟩))
    all_goals (go_wp2_with fail; go_meet; exact ⟨_, rfl, by go_simp, by go_simp, by repeat (first | with_reducible exact Below.refl _ _ | with_reducible apply Below.drew | with_reducible apply Geo.bel_drewN | with_reducible apply Geo.bel_alloc)⟩)
  case rest =>
    obtain ⟨g, rfl, g0, g1, hbel⟩ := hcut
    go_wp2_with fail
    go_region_held3 (fun w' => w'.cell? ⟨g, 0, none⟩ = some (.int .i64 (a4 + a0.tmod 8 * a6 + a2.tmod 8 * a7)) ∧ w'.cell? ⟨g, 1, none⟩ = some (.int .i64 (a5 + a1.tmod 8 * a6 + a3.tmod 8 * a7)))
      (exact ⟨g0, g1⟩)
      (first | (go_at_call 16; refine (Tform.turn_any _ _).mono ?_; rintro e w' ⟨rfl, rfl⟩))
    go_wp2
    go_ret
    exact ⟨rfl, Below.drew hbel⟩

/-! ### THE ROW's STEP: WRITTEN OUT: LEAVE IT -/
set_option maxRecDepth 100000 in
theorem lifted (os : Os) (started : os.Started) (H : Type) (enc : TypeId × Value → H) :
    ReturnsInHanded {} Try.checked os 6 .any (Rows.fnTransformSpec.pre6 enc Try.prog Try.f6 Rows.fnTransformRow.domain false) (Rows.fnTransformSpec.post enc Try.prog Try.f6 false true false false) := by
  refine returnsInHanded_of_change (C := Try.checked) own started (by kernel_rfl) Try.func6
    (ChangeSpec.witness6 (enc := enc) (C := Try.checked) false ⟨#[], #[.int .i8 0, .int .i8 0, .int .i8 0, .int .i8 0, .int .i16 0, .int .i16 0, .int .i16 0, .int .i16 0], []⟩ 8 (by kernel_rfl) (by kernel_rfl) (by kernel_rfl) (by kernel_rfl)) ?_
  intro W base args ds gs before hval0 hW hcnd _
  have hval : ∀ (j : Nat) t v, Try.f6.params[j]? = some t → args[j]? = some v → Value.okWide Try.prog W .any base t v := hval0
  have hW' := hW
  obtain ⟨p, q, hA0, hV, rfl, hfz, hnd⟩ := hW
  have hA : DataW.TrodAll enc Try.prog W 0 (fun _ => true) true Try.f6.params.toList args.toList ds p := hA0
  rw [Try.params6] at hA hval
  obtain ⟨v0, vs0, d0, ds0, p0, q0, hargs, rfl, rfl, h0, r0⟩ := trodAll_cons hA
  obtain ⟨v1, vs1, d1, ds1, p1, q1, rfl, rfl, rfl, h1, r1⟩ := trodAll_cons r0
  obtain ⟨v2, vs2, d2, ds2, p2, q2, rfl, rfl, rfl, h2, r2⟩ := trodAll_cons r1
  obtain ⟨v3, vs3, d3, ds3, p3, q3, rfl, rfl, rfl, h3, r3⟩ := trodAll_cons r2
  obtain ⟨v4, vs4, d4, ds4, p4, q4, rfl, rfl, rfl, h4, r4⟩ := trodAll_cons r3
  obtain ⟨v5, vs5, d5, ds5, p5, q5, rfl, rfl, rfl, h5, r5⟩ := trodAll_cons r4
  obtain ⟨v6, vs6, d6, ds6, p6, q6, rfl, rfl, rfl, h6, r6⟩ := trodAll_cons r5
  obtain ⟨v7, vs7, d7, ds7, p7, q7, rfl, rfl, rfl, h7, r7⟩ := trodAll_cons r6
  obtain ⟨rfl, rfl, rfl⟩ := trodAll_nil r7
  obtain rfl : args = #[v0, v1, v2, v3, v4, v5, v6, v7] := by cases args; simp_all
  obtain ⟨rfl, rfl⟩ := trodVars_none hV
  obtain ⟨a0, rfl, rfl, rfl, w0⟩ := open_int Try.underlying35 (hval 0 35 v0 rfl rfl) h0
  obtain ⟨a1, rfl, rfl, rfl, w1⟩ := open_int Try.underlying35 (hval 1 35 v1 rfl rfl) h1
  obtain ⟨a2, rfl, rfl, rfl, w2⟩ := open_int Try.underlying35 (hval 2 35 v2 rfl rfl) h2
  obtain ⟨a3, rfl, rfl, rfl, w3⟩ := open_int Try.underlying35 (hval 3 35 v3 rfl rfl) h3
  obtain ⟨a4, rfl, rfl, rfl, w4⟩ := open_int Try.underlying24 (hval 4 24 v4 rfl rfl) h4
  obtain ⟨a5, rfl, rfl, rfl, w5⟩ := open_int Try.underlying24 (hval 5 24 v5 rfl rfl) h5
  obtain ⟨a6, rfl, rfl, rfl, w6⟩ := open_int Try.underlying24 (hval 6 24 v6 rfl rfl) h6
  obtain ⟨a7, rfl, rfl, rfl, w7⟩ := open_int Try.underlying24 (hval 7 24 v7 rfl rfl) h7
  clear hA0 hval0
  simp only [List.append_nil] at hW'
  refine (walk a0 a1 a2 a3 a4 a5 a6 a7 w0 w1 w2 w3 w4 w5 w6 w7 W).mono fun e W' ⟨he, hg⟩ => ?_
  subst he
  exact ⟨_, rfl, _, _, _, [], _, [], hW', trodAll_mk1 (shut_bool Try.underlying4 _), (trodAll_cons_mk (shut_int Try.underlying35 w0) (trodAll_cons_mk (shut_int Try.underlying35 w1) (trodAll_cons_mk (shut_int Try.underlying35 w2) (trodAll_cons_mk (shut_int Try.underlying35 w3) (trodAll_cons_mk (shut_int Try.underlying24 w4) (trodAll_cons_mk (shut_int Try.underlying24 w5) (trodAll_cons_mk (shut_int Try.underlying24 w6) (trodAll_cons_mk (shut_int Try.underlying24 w7) trodAll_mk0)))))))), rfl, hg.frame _, fun h => by cases h⟩

theorem over : Rows.fnTransformRow.holds Try.pinned (OpenSpec.ofChange Rows.fnTransformSpec) :=
  OpenClaim.holds_of_wide 6 Try.f6 rfl rfl rfl rfl rfl rfl rfl ⟨rfl, rfl, rfl, rfl, rfl⟩ rfl rfl rfl rfl rfl (by kernel_rfl) Try.func6 (by kernel_rfl)
    (of_decide_eq_true (by kernel_rfl)) (by unfold Func.isWrapper; first | (rw [if_pos (by decide +kernel)]; kernel_rfl) | (rw [if_neg (by decide +kernel)]; exact ⟨rfl, rfl⟩))
    (fun os started H enc _ => lifted os started H enc)

/-- ████ THE STATEMENT ████ -/
theorem proved : Rows.FnTransformSaid :=
  over
#print axioms proved
end Go.Proofs.Ytjpnobmgcgeofaa.fnTransform
