/-
  The statement of FnUCS2: a text of two bytes a letter is read as the letters' own text, and one of an odd number of bytes is refused.
  Conditions: those of the statement alone (up to 100 letters, none of them a half); the listed error variable holds what the program's text lays, which the given tie shows.
-/
import Derived.Test.YtofidkkihkgagaaDoorCards
import Derived.Test.YtofidkkihkgagaaDoorTie
import Derived.Test.YtofidkkihkgagaaDoorUcsW
import Derived.WalkKit
import Derived.ProofKit
import Derived.OpenShut
import Derived.OpenVars
import Derived.ShutString
import Derived.ChangeOld
import Derived.Below
import Derived.Deep.DeepHandedRow
import Derived.Deep.DeepWitnessRowRef
import Derived.Lib.LaidIn
import Derived.Stop.LaidErr
import Derived.SevenTiedAt
namespace Go.Proofs.YtofidkkihkgagaaDoor.fnUCS2
open Go.ChangeShapes Go.WideShapes Go.ChangeAt Go.RowKit
open Lst UcsW
set_option linter.unusedVariables false

theorem own : ownKnob Tryd.prog.godebug = none := by kernel_rfl
theorem laidOut : laidOutB Tryd.prog = true := by kernel_rfl
theorem star : "*" ++ "errors.errorString" = "*errors.errorString" := by decide
theorem row (u : TypeId) (h : Tryd.prog.typeName? 3 u = some "*errors.errorString") : u = 111 :=
  typeName_ptr_named (nm := "errors.errorString") (by rw [star]; kernel_rfl) (by kernel_rfl) (by decide) u (by rw [star]; exact h)

/-- A WORLD FOR THE WITNESS: the settled one with one block more (the sentinel's text), the variable leading to it. -/
noncomputable def laidWorld (os : Os) : World :=
  let N := (World.settled Tryd.prog os).heap.size
  let w0 := World.holding Tryd.prog os ⟨#[.cells #[.string ⟨#[115, 102, 110, 116, 58, 32, 105, 110, 118, 97, 108, 105, 100, 32, 85, 67, 83, 45, 50, 32, 115, 116, 114, 105, 110, 103]⟩] 141], #[], []⟩
  let put (h : Array Obj) (g : Nat) (cs : Array Value) : Array Obj := h.modify g fun
    | .cells _ t frozen => .cells cs t frozen
    | o => o
  { w0 with heap := put w0.heap 0 #[.iface 111 (.pointer (some ⟨N, 0, none⟩))] }
noncomputable abbrev N0 : Nat := (World.settled Tryd.prog default).heap.size
theorem laid_met (os : Os) (args : Array Value) : laidMet Tryd.prog Rows.fnUCS2Row.laid ((laidWorld os).forCall (fun _ _ => 0) ⟨#[], args, []⟩).memory :=
  (LaidIn.of_run (l := Rows.fnUCS2Row.laid) [0, N0] 8 (by kernel_rfl) (by kernel_rfl) (by kernel_rfl) (by kernel_rfl)).met

/-- the walk, from what the row tells of the slice -/
theorem walk_row (a0 : Option Addr) (len0 cap0 : Nat) (z0 : List Int) (odd : Bool) (E : Value) (u : TypeId) (w : World) (w0 : IsRow .u16 w a0 len0 cap0 z0) (hE : w.cell? ⟨0, 0, none⟩ = some (.iface u E)) :
    Calls Tryd.prog 3 #[.slice a0 len0 cap0, .bool odd] w fun e w' => e = .returned (.bool true) ∧ Below w.heap.size w w' := by
  by_cases h1 : (2147483647 : Int) < (len0 : Int)
  · clear w0 hE
    go_enter Tryd.func3, Tryd.ntmps3
    go_wp2
    go_ret
    exact ⟨rfl, Below.refl _ _⟩
  by_cases h2 : (100 : Int) < (len0 : Int)
  · clear w0 hE
    go_enter Tryd.func3, Tryd.ntmps3
    go_wp2
    go_ret
    exact ⟨rfl, Below.refl _ _⟩
  rcases w0 with ⟨rfl, rfl, rfl, rfl⟩ | ⟨x, rfl, hl, hm, hz, hcell, hwz⟩
  · exact walk none 0 0 [] odd E u w rfl (by omega) (fun x hx => by cases hx) (fun h => absurd h (by omega)) hE
  · have hlz : len0 ≤ z0.length := by omega
    refine walk (some x) len0 cap0 (z0.take len0) odd E u w (by rw [List.length_take]; omega) (by omega) (fun y hy => bounds_u16 (hwz y (List.mem_of_mem_take hy))) (fun hp => ?_) hE
    obtain ⟨b, off, spot⟩ := x
    have hc := hcell 0 (by omega)
    have hspot : spot = none := by simpa [Addr.add] using World.cell?_spot hc
    subst hspot
    refine ⟨b, off, rfl, World.block_lt_of_cell? w _ hc, fun j v hv => ?_⟩
    rw [vals_at, List.getElem?_take] at hv
    by_cases hj : j < len0
    · rw [if_pos hj, List.getElem?_eq_getElem (by omega)] at hv
      have := hcell j (by omega)
      rw [List.getD_eq_getElem?_getD, List.getElem?_eq_getElem (by omega)] at this
      rw [Addr.add_lit] at this
      rw [this, ← hv]
      rfl
    · rw [if_neg hj] at hv
      cases hv

theorem reads (os : Os) {H : Type} (enc : TypeId × Value → H) : ∃ x, DataW.whole enc Tryd.prog ((laidWorld os).forCall (fun _ _ => 0) ⟨#[], #[.slice none 0 0, .bool false], []⟩).memory Tryd.f3.params.toList Rows.fnUCS2Spec.vars false #[Value.slice none 0 0, .bool false].toList 8 = some x :=
  Option.isSome_iff_exists.1 (by kernel_rfl)

/-- WHAT THE ROW's LIST GIVES: the variable's cell holds an interface value that is not nil. -/
theorem errCell {W : World} (h : laidMet Tryd.prog Rows.fnUCS2Row.laid W) : ∃ u E, W.cell? ⟨0, 0, none⟩ = some (.iface u E) := by
  obtain ⟨a, s, hv, _⟩ := laid_sentinel (g := 0) h (by kernel_rfl) (by kernel_rfl) Tryd.underlying42 row Tryd.underlying111 Tryd.underlying141 rfl rfl Tryd.underlying9 (by kernel_rfl) (by kernel_rfl)
  exact ⟨_, _, by simpa using World.var?_cell (show Tryd.prog.globalNamed "loop.example/pub-g03433/pub/sfnt.errInvalidUCS2String" = some 0 by kernel_rfl) hv 0⟩

set_option maxRecDepth 100000 in
theorem lifted (os : Os) (started : os.Started) (H : Type) (enc : TypeId × Value → H) (F : Stop.Interp) :
    ReturnsInHanded {} Tryd.checked os 3 .any ((OpenSpec.ofChange Rows.fnUCS2Spec).preRow enc Tryd.prog Tryd.f3 Rows.fnUCS2Row.domain false Rows.fnUCS2Row.laid) (((OpenSpec.ofChange Rows.fnUCS2Spec).at F).post enc Tryd.prog Tryd.f3 false true false false) := by
  obtain ⟨x, hx⟩ := reads os enc
  refine returnsInHanded_of_row (C := Tryd.checked) (s := OpenSpec.ofChange Rows.fnUCS2Spec) own started (by kernel_rfl) Tryd.func3
    (witness_row_atRef (enc := enc) (C := Tryd.checked) false (laidWorld os) #[.slice none 0 0, .bool false] rfl (by kernel_rfl) (by kernel_rfl) (by kernel_rfl)
      (OpenSpec.preRow_of_cond 8 hx (by kernel_rfl) (fun k hk => by cases hk) (by kernel_rfl) (laid_met os _))) ?_
  intro W base args ds gs before hval0 hW hcnd _ _ hL _ _
  have hval : ∀ (j : Nat) t v, Tryd.f3.params[j]? = some t → args[j]? = some v → Value.okWide Tryd.prog W .any base t v := hval0
  have hW' := hW
  obtain ⟨p, q, hA0, hV, rfl, hfz, hnd⟩ := hW
  have hA : DataW.TrodAll enc Tryd.prog W 0 (fun _ => true) true Tryd.f3.params.toList args.toList ds p := hA0
  rw [Tryd.params3] at hA hval
  obtain ⟨v0, vs0, d0, ds0, p0, q0, hargs, rfl, rfl, h0, r0⟩ := trodAll_cons hA
  obtain ⟨v1, vs1, d1, ds1, p1, q1, rfl, rfl, rfl, h1, r1⟩ := trodAll_cons r0
  obtain ⟨rfl, rfl, rfl⟩ := trodAll_nil r1
  obtain rfl : args = #[v0, v1] := by cases args; simp_all
  obtain ⟨a0, len0, cap0, rfl⟩ := okWide_slice Tryd.underlying22 (hval 0 22 v0 rfl rfl)
  have k0 := h0
  have lt0 : ∀ x ∈ p0, x.block < W.heap.size := by obtain ⟨m, hm⟩ := k0; exact DataW.trod_lt m _ _ _ hm
  obtain ⟨z0, w0⟩ : ∃ zs, IsRow .u16 W a0 len0 cap0 zs := by
    obtain ⟨fuel, hf⟩ := h0
    rcases open_ints Tryd.underlying22 Tryd.underlying24 (by kernel_rfl) hf with ⟨hcs, _⟩ | ⟨x, l, c, zs, hcs, _, hl, hm, hz, _, hcell, hwz⟩
    · simp [Value.cells] at hcs
      obtain ⟨rfl, rfl, rfl⟩ := hcs
      exact ⟨[], .inl ⟨rfl, rfl, rfl, rfl⟩⟩
    · simp [Value.cells] at hcs
      obtain ⟨rfl, rfl, rfl⟩ := hcs
      exact ⟨zs, .inr ⟨_, rfl, hl, hm, by simpa using hz, hcell, hwz⟩⟩
  obtain ⟨a1, rfl, rfl, rfl⟩ := open_bool Tryd.underlying4 (hval 1 4 v1 rfl rfl) h1
  obtain ⟨g0, _, _, _, gd, _, rfl, _⟩ := trodVars_one hV
  obtain ⟨u, E, hE⟩ := errCell hL
  clear hA0 hval0
  refine (walk_row a0 len0 cap0 z0 a1 E u W w0 hE).mono fun e W' ⟨he, bel⟩ => ?_
  subst he
  exact ⟨_, rfl, _, _, _, [], _, _, hW', trodAll_mk1 (shut_bool Tryd.underlying4 _), (trodAll_cons_mk (Below.trod laidOut (by kernel_rfl) (of_decide_eq_true (by kernel_rfl)) k0 bel lt0) (trodAll_cons_mk (shut_bool Tryd.underlying4 _) trodAll_mk0)), Below.trodVars laidOut bel (by kernel_rfl) hV, bel.frame _, fun h => by cases h⟩

theorem said : Rows.FnUCS2Said :=
  OpenClaim.holds_of_cond 3 Tryd.f3 rfl rfl rfl rfl rfl rfl rfl ⟨rfl, rfl, rfl, rfl, rfl⟩ rfl rfl rfl rfl rfl (by kernel_rfl) Tryd.func3 (by kernel_rfl)
    (of_decide_eq_true (by kernel_rfl)) (by unfold Func.isWrapper; first | (rw [if_pos (by decide +kernel)]; kernel_rfl) | (rw [if_neg (by decide +kernel)]; exact ⟨rfl, rfl⟩))
    (fun os started H enc _ F => by rw [OpenClaim.pre_eq_preRow]; exact lifted os started H enc F)

/-- No parameter wants a stand-in; the program's own looks are off. -/
theorem plain (f : FuncId) (fn : Func) (hf : Tryd.pinned.checked.prog.funcNamed "loop.example/pub-g03433/laws.FnUCS2" = some f) (hfn : Tryd.pinned.checked.prog.funcs[f]? = some fn) :
    false = Tryd.pinned.checked.prog.looks [] ∧ ∀ (j : Nat) t, fn.params[j]? = some t → Tryd.pinned.checked.prog.wantsStandIn t = false := by
  obtain rfl : f = 3 := Option.some.inj ((show Tryd.prog.funcNamed "loop.example/pub-g03433/laws.FnUCS2" = some 3 by kernel_rfl).symm.trans hf) |>.symm
  obtain rfl : fn = Tryd.f3 := (Option.some.inj (Tryd.func3.symm.trans hfn)).symm
  refine ⟨by kernel_rfl, fun j t ht => ?_⟩
  rw [Tryd.params3] at ht
  have hm := Array.mem_of_getElem? ht
  obtain rfl | rfl : t = 22 ∨ t = 4 := by simpa using hm
  · exact (show Tryd.prog.wantsStandIn 22 = false by kernel_rfl)
  · exact (show Tryd.prog.wantsStandIn 4 = false by kernel_rfl)

theorem card : Rows.FnUCS2CardSaid :=
  Claim7.holds_tied_plain_at .later [] _ _ _ _ said (fun _ h => by cases h) (by kernel_rfl) (fun _ h => by cases h) fnUCS2_row_tie rfl ⟨rfl, rfl⟩ (by kernel_rfl) rfl plain (by kernel_rfl)
end Go.Proofs.YtofidkkihkgagaaDoor.fnUCS2
