/-
  A place times a number, and over one, cut towards 0: the statement FnPoint, for every input.
  The frame around the walk is the kit's shell (proof-skeleton.mjs).
-/
import Derived.Test.YtjpnobmgcgeofaaRows
import Derived.WalkKit
import Derived.ProofKit
import Derived.OpenShut
import Derived.ShutString
import Derived.ChangeOld
import Derived.Below
import Derived.Test.YtjpnobmgcgeofaaGeo2
import Derived.Deep.QuietTactic
import Derived.BigQuiet
namespace Go.Proofs.Ytjpnobmgcgeofaa.fnPoint
open Go.ChangeShapes Go.WideShapes Go.ChangeAt Go.RowKit
open Go.ChangeMaps (open_string shut_string)
set_option linter.unusedVariables false      -- a walk need not use every 'w<i>' (that an integer argument fits its kind)

theorem own : ownKnob Try.prog.godebug = none := by kernel_rfl

/-! ### STEP 1: THE WALK: the Go text returns true. 'Below w.heap.size w w'': the world has at most new blocks (Derived/RowKit3.lean). Part the cases AHEAD of 'go_enter' where a test parts the walk; take each callee by a contract of your own. -/
theorem walk (a0 : Int) (a1 : Int) (a2 : Int) (w0 : (Lit.int .i16 a0).wf = true) (w1 : (Lit.int .i16 a1).wf = true) (w2 : (Lit.int .i16 a2).wf = true) (w : World) :
    Calls Try.prog 4 #[.int .i16 a0, .int .i16 a1, .int .i16 a2] w fun e w' => e = .returned (.bool true) ∧ Below w.heap.size w w' := by
  have b0 := bounds_i16 w0
  have b1 := bounds_i16 w1
  have b2 := bounds_i16 w2
  clear w0 w1 w2
  have m1 := Nums.mul_bd (a0 / 8) (a2 / 8) 4096 4096 (by omega) (by omega)
  have m2 := Nums.mul_bd (a1 / 8) (a2 / 8) 4096 4096 (by omega) (by omega)
  have q1 := Nums.tdiv_bd (a0 / 8 * (a2 / 8)) 64 16777216 (by omega) (by omega)
  have q2 := Nums.tdiv_bd (a1 / 8 * (a2 / 8)) 64 16777216 (by omega) (by omega)
  have e1 : IntKind.i64.wrap (a0 / 8 * (a2 / 8)) = a0 / 8 * (a2 / 8) := IntWalk.i64_in _ (by omega)
  have e2 : IntKind.i64.wrap (a1 / 8 * (a2 / 8)) = a1 / 8 * (a2 / 8) := IntWalk.i64_in _ (by omega)
  have e3 : IntKind.i64.wrap ((a0 / 8 * (a2 / 8)).tdiv 64) = (a0 / 8 * (a2 / 8)).tdiv 64 := IntWalk.i64_in _ (by omega)
  have e4 : IntKind.i64.wrap ((a1 / 8 * (a2 / 8)).tdiv 64) = (a1 / 8 * (a2 / 8)).tdiv 64 := IntWalk.i64_in _ (by omega)
  have d1 := Nums.tdiv_bd (a0 / 8 * 64) (a2 / 8) 16777216 (by omega) (by omega)
  have d2 := Nums.tdiv_bd (a1 / 8 * 64) (a2 / 8) 16777216 (by omega) (by omega)
  have f1 : IntKind.i64.wrap (a0 / 8 * 64) = a0 / 8 * 64 := IntWalk.i64_in _ (by omega)
  have f2 : IntKind.i64.wrap (a1 / 8 * 64) = a1 / 8 * 64 := IntWalk.i64_in _ (by omega)
  have f3 : IntKind.i64.wrap ((a0 / 8 * 64).tdiv (a2 / 8)) = (a0 / 8 * 64).tdiv (a2 / 8) := IntWalk.i64_in _ (by omega)
  have f4 : IntKind.i64.wrap ((a1 / 8 * 64).tdiv (a2 / 8)) = (a1 / 8 * 64).tdiv (a2 / 8) := IntWalk.i64_in _ (by omega)
  by_cases hk : a2 / 8 = 0
  · have hk' : (a2 / 8 == 0) = true := by simpa using hk
    have K := Lib.hid hk
    clear hk
    go_enter Try.func4, Try.ntmps4
    go_wp2_with fail
    go_region_held3 (fun w' => w'.cell? ⟨w.heap.size, 0, none⟩ = some (.int .i64 (a0 / 8)) ∧ w'.cell? ⟨w.heap.size, 1, none⟩ = some (.int .i64 (a1 / 8)))
      (first | (go_split_ands; refine ⟨Geo.keep_cell hb rfl ?_, Geo.keep_cell hb rfl ?_⟩ <;> assumption) | (refine ⟨?_, ?_⟩ <;> go_simp))
      (first | (go_at_call 12; refine (Geo2.pointMul_any _ _ _ _ (by omega) (by omega) (by omega) (by omega) (by omega)).mono ?_; rintro e w2 ⟨rfl, hb⟩))
    go_wp2_with fail
    go_quiet (fail)
    go_wp2
    go_ret
    exact ⟨rfl, by repeat (first | with_reducible exact Below.refl _ _ | with_reducible apply Below.drew | with_reducible apply Geo.bel_drewN | with_reducible apply Geo.bel_alloc | (with_reducible refine Geo.bel_trans ?_ (by assumption)))⟩
  · have hk' : (a2 / 8 == 0) = false := by simpa using hk
    go_enter Try.func4, Try.ntmps4
    go_wp2_with fail
    go_region_held3 (fun w' => w'.cell? ⟨w.heap.size, 0, none⟩ = some (.int .i64 (a0 / 8)) ∧ w'.cell? ⟨w.heap.size, 1, none⟩ = some (.int .i64 (a1 / 8)))
      (first | (go_split_ands; refine ⟨Geo.keep_cell hb rfl ?_, Geo.keep_cell hb rfl ?_⟩ <;> assumption) | (refine ⟨?_, ?_⟩ <;> go_simp))
      (first | (go_at_call 12; refine (Geo2.pointMul_any _ _ _ _ (by omega) (by omega) (by omega) (by omega) (by omega)).mono ?_; rintro e w2 ⟨rfl, hb⟩))
    go_wp2_with fail
    go_split_ands
    rename_i c0 c1
    go_region_held3 (fun w' => w'.cell? ⟨w.heap.size, 0, none⟩ = some (.int .i64 (a0 / 8)) ∧ w'.cell? ⟨w.heap.size, 1, none⟩ = some (.int .i64 (a1 / 8)))
      (first | (go_split_ands; refine ⟨Geo.keep_cell hb rfl ?_, Geo.keep_cell hb rfl ?_⟩ <;> assumption) | (exact ⟨c0, c1⟩))
      (first | (go_at_call 13; refine (Geo2.pointDiv_any _ _ _ _ (by omega) (by omega) (by omega) (by omega) (by omega) hk).mono ?_; rintro e w2 ⟨rfl, hb⟩))
    go_wp2
    go_ret
    exact ⟨rfl, by repeat (first | with_reducible exact Below.refl _ _ | with_reducible apply Below.drew | with_reducible apply Geo.bel_drewN | with_reducible apply Geo.bel_alloc | (with_reducible refine Geo.bel_trans ?_ (by assumption)))⟩

/-! ### THE ROW's STEP: WRITTEN OUT: LEAVE IT -/
set_option maxRecDepth 100000 in
theorem lifted (os : Os) (started : os.Started) (H : Type) (enc : TypeId × Value → H) :
    ReturnsInHanded {} Try.checked os 4 .any (Rows.fnPointSpec.pre6 enc Try.prog Try.f4 Rows.fnPointRow.domain false) (Rows.fnPointSpec.post enc Try.prog Try.f4 false true false false) := by
  refine returnsInHanded_of_change (C := Try.checked) own started (by kernel_rfl) Try.func4
    (ChangeSpec.witness6 (enc := enc) (C := Try.checked) false ⟨#[], #[.int .i16 0, .int .i16 0, .int .i16 0], []⟩ 8 (by kernel_rfl) (by kernel_rfl) (by kernel_rfl) (by kernel_rfl)) ?_
  intro W base args ds gs before hval0 hW hcnd _
  have hval : ∀ (j : Nat) t v, Try.f4.params[j]? = some t → args[j]? = some v → Value.okWide Try.prog W .any base t v := hval0
  have hW' := hW
  obtain ⟨p, q, hA0, hV, rfl, hfz, hnd⟩ := hW
  have hA : DataW.TrodAll enc Try.prog W 0 (fun _ => true) true Try.f4.params.toList args.toList ds p := hA0
  rw [Try.params4] at hA hval
  obtain ⟨v0, vs0, d0, ds0, p0, q0, hargs, rfl, rfl, h0, r0⟩ := trodAll_cons hA
  obtain ⟨v1, vs1, d1, ds1, p1, q1, rfl, rfl, rfl, h1, r1⟩ := trodAll_cons r0
  obtain ⟨v2, vs2, d2, ds2, p2, q2, rfl, rfl, rfl, h2, r2⟩ := trodAll_cons r1
  obtain ⟨rfl, rfl, rfl⟩ := trodAll_nil r2
  obtain rfl : args = #[v0, v1, v2] := by cases args; simp_all
  obtain ⟨rfl, rfl⟩ := trodVars_none hV
  obtain ⟨a0, rfl, rfl, rfl, w0⟩ := open_int Try.underlying24 (hval 0 24 v0 rfl rfl) h0
  obtain ⟨a1, rfl, rfl, rfl, w1⟩ := open_int Try.underlying24 (hval 1 24 v1 rfl rfl) h1
  obtain ⟨a2, rfl, rfl, rfl, w2⟩ := open_int Try.underlying24 (hval 2 24 v2 rfl rfl) h2
  clear hA0 hval0
  simp only [List.append_nil] at hW'
  refine (walk a0 a1 a2 w0 w1 w2 W).mono fun e W' ⟨he, hg⟩ => ?_
  subst he
  exact ⟨_, rfl, _, _, _, [], _, [], hW', trodAll_mk1 (shut_bool Try.underlying4 _), (trodAll_cons_mk (shut_int Try.underlying24 w0) (trodAll_cons_mk (shut_int Try.underlying24 w1) (trodAll_cons_mk (shut_int Try.underlying24 w2) trodAll_mk0))), rfl, hg.frame _, fun h => by cases h⟩

theorem over : Rows.fnPointRow.holds Try.pinned (OpenSpec.ofChange Rows.fnPointSpec) :=
  OpenClaim.holds_of_wide 4 Try.f4 rfl rfl rfl rfl rfl rfl rfl ⟨rfl, rfl, rfl, rfl, rfl⟩ rfl rfl rfl rfl rfl (by kernel_rfl) Try.func4 (by kernel_rfl)
    (of_decide_eq_true (by kernel_rfl)) (by unfold Func.isWrapper; first | (rw [if_pos (by decide +kernel)]; kernel_rfl) | (rw [if_neg (by decide +kernel)]; exact ⟨rfl, rfl⟩))
    (fun os started H enc _ => lifted os started H enc)

/-- ████ THE STATEMENT ████ -/
theorem proved : Rows.FnPointSaid :=
  over
#print axioms proved
end Go.Proofs.Ytjpnobmgcgeofaa.fnPoint
