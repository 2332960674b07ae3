/-
  A number over units an em is rounded to the nearest whole number, halves away from 0: the statement FnScale, for every input.
  The frame around the walk is the kit's shell (proof-skeleton.mjs).
-/
import Derived.Test.YtdccbjnfeejbkaaRows
import Derived.WalkKit
import Derived.ProofKit
import Derived.OpenShut
import Derived.ShutString
import Derived.ChangeOld
import Derived.Below
import Derived.Test.YtdccbjnfeejbkaaNums
import Derived.Lib.Hide
namespace Go.Proofs.Ytdccbjnfeejbkaa.fnScale
open Go.ChangeShapes Go.WideShapes Go.ChangeAt Go.RowKit
open Go.ChangeMaps (open_string shut_string)
set_option linter.unusedVariables false      -- a walk need not use every 'w<i>' (that an integer argument fits its kind)

theorem own : ownKnob Try.prog.godebug = none := by kernel_rfl

theorem pos (x u : Int) (hu : 1 ≤ u) : (x + u / 2) / u = (2 * x + u) / (2 * u) := by
  have h : 2 * u = 2 * u := rfl
  rw [Int.mul_comm 2 u, Int.mul_comm 2 x]
  symm
  rw [Int.ediv_eq_iff_of_pos (by omega)]
  have e := Int.mul_ediv_add_emod (x + u / 2) u
  have l := Int.emod_nonneg (x + u / 2) (b := u) (by omega)
  have m := Int.emod_lt_of_pos (x + u / 2) (b := u) (by omega)
  generalize (x + u / 2) / u = q at *
  generalize (x + u / 2) % u = r at *
  rw [← Int.mul_assoc, Int.mul_comm q u]
  omega
theorem tmod_bd (x : Int) : -268435455 ≤ x.tmod 268435456 ∧ x.tmod 268435456 ≤ 268435455 := by
  have h1 := Int.lt_tmod_of_pos x (b := 268435456) (by omega)
  have h2 := Int.tmod_lt_of_pos x (b := 268435456) (by omega)
  omega
theorem neg_ (x u : Int) (hx : x < 0) (hu : 1 ≤ u) : (x - u / 2).tdiv u = -((-2 * x + u) / (2 * u)) := by
  have h := pos (-x) u hu
  have e : x - u / 2 = -(-x + u / 2) := by omega
  rw [e, Int.neg_tdiv, Int.tdiv_eq_ediv_of_nonneg (by omega), h]
  rw [show 2 * -x = -2 * x by omega]
/-! ### STEP 1: THE WALK: the Go text returns true. 'Below w.heap.size w w'': the world has at most new blocks (Derived/RowKit3.lean). Part the cases AHEAD of 'go_enter' where a test parts the walk; take each callee by a contract of your own. -/
theorem walk (a0 : Int) (a1 : Int) (w0 : (Lit.int .i32 a0).wf = true) (w1 : (Lit.int .u16 a1).wf = true) (w : World) :
    Calls Try.prog 4 #[.int .i32 a0, .int .u16 a1] w fun e w' => e = .returned (.bool true) ∧ Below w.heap.size w w' := by
  have b0 := tmod_bd a0
  have b1 := bounds_u16 w1
  have b2 := bounds_i32 w0
  by_cases h : 0 ≤ a0.tmod 268435456
  · have p1 := pos (a0.tmod 268435456) (1 + a1 % 16384) (by omega)
    have q1 := Nums.ediv_bd (a0.tmod 268435456 + (1 + a1 % 16384) / 2) (1 + a1 % 16384) (by omega) 536870912 (by omega) (by omega) (by omega)
    have q2 := q1
    rw [p1] at q2
    have P := Lib.hid p1
    clear p1
    go_enter Try.func4, Try.ntmps4
    go_wp2
    go_ret
    exact ⟨Nums.ret_bool (by rw [P.out]; simp), Below.refl _ _⟩
  · have p1 := neg_ (a0.tmod 268435456) (1 + a1 % 16384) (by omega) (by omega)
    have q2 := Nums.ediv_bd (-2 * a0.tmod 268435456 + (1 + a1 % 16384)) (2 * (1 + a1 % 16384)) (by omega) 1073741824 (by omega) (by omega) (by omega)
    have q1 : -1073741824 ≤ (a0.tmod 268435456 - (1 + a1 % 16384) / 2).tdiv (1 + a1 % 16384) ∧ (a0.tmod 268435456 - (1 + a1 % 16384) / 2).tdiv (1 + a1 % 16384) ≤ 1073741824 := by rw [p1]; omega
    have P := Lib.hid p1
    clear p1
    go_enter Try.func4, Try.ntmps4
    go_wp2
    go_ret
    exact ⟨Nums.ret_bool (by rw [P.out]; simp), Below.refl _ _⟩

/-! ### THE ROW's STEP: WRITTEN OUT: LEAVE IT -/
set_option maxRecDepth 100000 in
theorem lifted (os : Os) (started : os.Started) (H : Type) (enc : TypeId × Value → H) :
    ReturnsInHanded {} Try.checked os 4 .any (Rows.fnScaleSpec.pre6 enc Try.prog Try.f4 Rows.fnScaleRow.domain false) (Rows.fnScaleSpec.post enc Try.prog Try.f4 false true false false) := by
  refine returnsInHanded_of_change (C := Try.checked) own started (by kernel_rfl) Try.func4
    (ChangeSpec.witness6 (enc := enc) (C := Try.checked) false ⟨#[], #[.int .i32 0, .int .u16 0], []⟩ 8 (by kernel_rfl) (by kernel_rfl) (by kernel_rfl) (by kernel_rfl)) ?_
  intro W base args ds gs before hval0 hW hcnd _
  have hval : ∀ (j : Nat) t v, Try.f4.params[j]? = some t → args[j]? = some v → Value.okWide Try.prog W .any base t v := hval0
  have hW' := hW
  obtain ⟨p, q, hA0, hV, rfl, hfz, hnd⟩ := hW
  have hA : DataW.TrodAll enc Try.prog W 0 (fun _ => true) true Try.f4.params.toList args.toList ds p := hA0
  rw [Try.params4] at hA hval
  obtain ⟨v0, vs0, d0, ds0, p0, q0, hargs, rfl, rfl, h0, r0⟩ := trodAll_cons hA
  obtain ⟨v1, vs1, d1, ds1, p1, q1, rfl, rfl, rfl, h1, r1⟩ := trodAll_cons r0
  obtain ⟨rfl, rfl, rfl⟩ := trodAll_nil r1
  obtain rfl : args = #[v0, v1] := by cases args; simp_all
  obtain ⟨rfl, rfl⟩ := trodVars_none hV
  obtain ⟨a0, rfl, rfl, rfl, w0⟩ := open_int Try.underlying21 (hval 0 21 v0 rfl rfl) h0
  obtain ⟨a1, rfl, rfl, rfl, w1⟩ := open_int Try.underlying26 (hval 1 26 v1 rfl rfl) h1
  clear hA0 hval0
  simp only [List.append_nil] at hW'
  refine (walk a0 a1 w0 w1 W).mono fun e W' ⟨he, hg⟩ => ?_
  subst he
  exact ⟨_, rfl, _, _, _, [], _, [], hW', trodAll_mk1 (shut_bool Try.underlying4 _), (trodAll_cons_mk (shut_int Try.underlying21 w0) (trodAll_cons_mk (shut_int Try.underlying26 w1) trodAll_mk0)), rfl, hg.frame _, fun h => by cases h⟩

theorem over : Rows.fnScaleRow.holds Try.pinned (OpenSpec.ofChange Rows.fnScaleSpec) :=
  OpenClaim.holds_of_wide 4 Try.f4 rfl rfl rfl rfl rfl rfl rfl ⟨rfl, rfl, rfl, rfl, rfl⟩ rfl rfl rfl rfl rfl (by kernel_rfl) Try.func4 (by kernel_rfl)
    (of_decide_eq_true (by kernel_rfl)) (by unfold Func.isWrapper; first | (rw [if_pos (by decide +kernel)]; kernel_rfl) | (rw [if_neg (by decide +kernel)]; exact ⟨rfl, rfl⟩))
    (fun os started H enc _ => lifted os started H enc)

/-- ████ THE STATEMENT ████ -/
theorem proved : Rows.FnScaleSaid :=
  over
#print axioms proved
end Go.Proofs.Ytdccbjnfeejbkaa.fnScale
