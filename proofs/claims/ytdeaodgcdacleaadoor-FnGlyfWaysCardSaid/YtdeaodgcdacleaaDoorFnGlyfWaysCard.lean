/-
  In whatever ways a glyph's data are written, its path is the same.
  Conditions: those of the statement alone; the listed variables hold what the program's text lays, which the given tie shows.
-/
import Derived.Test.YtdeaodgcdacleaaDoorCards
import Derived.Test.YtdeaodgcdacleaaDoorTie
import Derived.Test.YtdeaodgcdacleaaDoorFnGlyfWaysW
import Derived.WalkKit
import Derived.ProofKit
import Derived.OpenShut
import Derived.OpenVars
import Derived.ShutString
import Derived.ChangeOld
import Derived.Below
import Derived.Deep.DeepHandedRow
import Derived.Deep.DeepWitnessRowRef
import Derived.Lib.LaidIn
import Derived.Stop.LaidErr
import Derived.SevenTiedAt
namespace Go.Proofs.YtdeaodgcdacleaaDoor.fnGlyfWays
open Go.ChangeShapes Go.WideShapes Go.ChangeAt Go.RowKit
open Lst Mem
set_option linter.unusedVariables false

theorem own : ownKnob Tryd.prog.godebug = none := by kernel_rfl
theorem laidOut : laidOutB Tryd.prog = true := by kernel_rfl
theorem vars_len {H : Type} {enc : TypeId × Value → H} {P : Program} {w : World} {sp : Nat → Bool} : ∀ {ns : List String} {gs : List (DataW H)} {ps : List MemPlace}, DataW.TrodVars enc P w sp ns gs ps → gs.length = ns.length
  | [], [], _, _ => rfl
  | _ :: ns, _ :: gs, _, ⟨_, _, _, _, _, _, _, _, _, _, h, _⟩ => by simpa using vars_len h
/-- A world for the witness: the settled one with a block more for each listed error. -/
noncomputable def laidWorld (os : Os) : World :=
  let N := (World.settled Tryd.prog os).heap.size
  let w0 := World.holding Tryd.prog os ⟨#[.cells #[.string ⟨#[115, 102, 110, 116, 58, 32, 99, 111, 108, 111, 114, 101, 100, 32, 103, 108, 121, 112, 104]⟩] 218, .cells #[.string ⟨#[115, 102, 110, 116, 58, 32, 110, 111, 116, 32, 102, 111, 117, 110, 100]⟩] 218, .cells #[.string ⟨#[115, 102, 110, 116, 58, 32, 105, 110, 118, 97, 108, 105, 100, 32, 98, 111, 117, 110, 100, 115]⟩] 218, .cells #[.string ⟨#[115, 102, 110, 116, 58, 32, 105, 110, 118, 97, 108, 105, 100, 32, 103, 108, 121, 112, 104, 32, 100, 97, 116, 97]⟩] 218, .cells #[.string ⟨#[115, 102, 110, 116, 58, 32, 105, 110, 118, 97, 108, 105, 100, 32, 103, 108, 121, 112, 104, 32, 100, 97, 116, 97, 32, 108, 101, 110, 103, 116, 104]⟩] 218, .cells #[.string ⟨#[115, 102, 110, 116, 58, 32, 117, 110, 115, 117, 112, 112, 111, 114, 116, 101, 100, 32, 99, 111, 109, 112, 111, 117, 110, 100, 32, 103, 108, 121, 112, 104]⟩] 218, .cells #[.string ⟨#[115, 102, 110, 116, 58, 32, 117, 110, 115, 117, 112, 112, 111, 114, 116, 101, 100, 32, 103, 108, 121, 112, 104, 32, 100, 97, 116, 97, 32, 108, 101, 110, 103, 116, 104]⟩] 218], #[], []⟩
  let put (h : Array Obj) (g : Nat) (cs : Array Value) : Array Obj := h.modify g fun
    | .cells _ t frozen => .cells cs t frozen
    | o => o
  let h0 := w0.heap
  let h1 := put h0 1 #[.iface 186 (.pointer (some ⟨N, 0, none⟩))]
  let h2 := put h1 0 #[.iface 186 (.pointer (some ⟨N + 1, 0, none⟩))]
  let h3 := put h2 6 #[.iface 186 (.pointer (some ⟨N + 2, 0, none⟩))]
  let h4 := put h3 2 #[.iface 186 (.pointer (some ⟨N + 3, 0, none⟩))]
  let h5 := put h4 3 #[.iface 186 (.pointer (some ⟨N + 4, 0, none⟩))]
  let h6 := put h5 5 #[.iface 186 (.pointer (some ⟨N + 5, 0, none⟩))]
  let h7 := put h6 4 #[.iface 186 (.pointer (some ⟨N + 6, 0, none⟩))]
  { w0 with heap := h7 }
noncomputable abbrev N0 : Nat := (World.settled Tryd.prog default).heap.size
theorem laid_met (os : Os) (args : Array Value) : laidMet Tryd.prog Rows.fnGlyfWaysRow.laid ((laidWorld os).forCall (fun _ _ => 0) ⟨#[], args, []⟩).memory :=
  (LaidIn.of_run (l := Rows.fnGlyfWaysRow.laid) [1, N0, 0, N0 + 1, 6, N0 + 2, 2, N0 + 3, 3, N0 + 4, 5, N0 + 5, 4, N0 + 6] 8 (by kernel_rfl) (by kernel_rfl) (by kernel_rfl) (by kernel_rfl)).met
theorem reads (os : Os) {H : Type} (enc : TypeId × Value → H) : ∃ x, DataW.whole enc Tryd.prog ((laidWorld os).forCall (fun _ _ => 0) ⟨#[], #[.int .u32 0, .slice none 0 0, .slice none 0 0, .int .u8 0, .int .u8 0, .int .u8 0], []⟩).memory Tryd.f4.params.toList Rows.fnGlyfWaysSpec.vars false (#[.int .u32 0, .slice none 0 0, .slice none 0 0, .int .u8 0, .int .u8 0, .int .u8 0] : Array Value).toList 8 = some x :=
  Option.isSome_iff_exists.1 (by kernel_rfl)

set_option maxRecDepth 100000 in
theorem lifted (os : Os) (started : os.Started) (H : Type) (enc : TypeId × Value → H) (F : Stop.Interp) :
    ReturnsInHanded {} Tryd.checked os 4 .any ((OpenSpec.ofChange Rows.fnGlyfWaysSpec).preRow enc Tryd.prog Tryd.f4 Rows.fnGlyfWaysRow.domain false Rows.fnGlyfWaysRow.laid) (((OpenSpec.ofChange Rows.fnGlyfWaysSpec).at F).post enc Tryd.prog Tryd.f4 false true false false) := by
  obtain ⟨x, hx⟩ := reads os enc
  refine returnsInHanded_of_row (C := Tryd.checked) (s := OpenSpec.ofChange Rows.fnGlyfWaysSpec) own started (by kernel_rfl) Tryd.func4
    (witness_row_atRef (enc := enc) (C := Tryd.checked) false (laidWorld os) #[.int .u32 0, .slice none 0 0, .slice none 0 0, .int .u8 0, .int .u8 0, .int .u8 0] rfl (by kernel_rfl) (by kernel_rfl) (by kernel_rfl)
      (OpenSpec.preRow_of_cond 8 hx (by kernel_rfl) (fun k hk => by cases hk) (by kernel_rfl) (laid_met os _))) ?_
  intro W base args ds gs before hval0 hW hcnd _ _ hL _ _
  have hval : ∀ (j : Nat) t v, Tryd.f4.params[j]? = some t → args[j]? = some v → Value.okWide Tryd.prog W .any base t v := hval0
  have hW' := hW
  obtain ⟨p, q, hA0, hV, rfl, hfz, hnd⟩ := hW
  have hA : DataW.TrodAll enc Tryd.prog W 0 (fun _ => true) true Tryd.f4.params.toList args.toList ds p := hA0
  rw [Tryd.params4] at hA hval
  obtain ⟨v0, vs0, d0, ds0, p0, q0, hargs, rfl, rfl, h0, r0⟩ := trodAll_cons hA
  obtain ⟨v1, vs1, d1, ds1, p1, q1, rfl, rfl, rfl, h1, r1⟩ := trodAll_cons r0
  obtain ⟨v2, vs2, d2, ds2, p2, q2, rfl, rfl, rfl, h2, r2⟩ := trodAll_cons r1
  obtain ⟨v3, vs3, d3, ds3, p3, q3, rfl, rfl, rfl, h3, r3⟩ := trodAll_cons r2
  obtain ⟨v4, vs4, d4, ds4, p4, q4, rfl, rfl, rfl, h4, r4⟩ := trodAll_cons r3
  obtain ⟨v5, vs5, d5, ds5, p5, q5, rfl, rfl, rfl, h5, r5⟩ := trodAll_cons r4
  obtain ⟨rfl, rfl, rfl⟩ := trodAll_nil r5
  obtain rfl : args = #[v0, v1, v2, v3, v4, v5] := by cases args; simp_all
  obtain ⟨a0, rfl, rfl, rfl, w0⟩ := open_int Tryd.underlying22 (hval 0 22 v0 rfl rfl) h0
  obtain ⟨a1, len1, cap1, rfl⟩ := okWide_slice Tryd.underlying23 (hval 1 23 v1 rfl rfl)
  have k1 := h1
  have lt1 : ∀ x ∈ p1, x.block < W.heap.size := by obtain ⟨m, hm⟩ := k1; exact DataW.trod_lt m _ _ _ hm
  obtain ⟨z1, w1⟩ : ∃ zs, IsRow .u32 W a1 len1 cap1 zs := by
    obtain ⟨fuel, hf⟩ := h1
    rcases open_ints Tryd.underlying23 Tryd.underlying22 (by kernel_rfl) hf with ⟨hcs, _⟩ | ⟨x, l, c, zs, hcs, _, hl, hm, hz, _, hcell, hwz⟩
    · simp [Value.cells] at hcs
      obtain ⟨rfl, rfl, rfl⟩ := hcs
      exact ⟨[], .inl ⟨rfl, rfl, rfl, rfl⟩⟩
    · simp [Value.cells] at hcs
      obtain ⟨rfl, rfl, rfl⟩ := hcs
      exact ⟨zs, .inr ⟨_, rfl, hl, hm, by simpa using hz, hcell, hwz⟩⟩
  obtain ⟨a2, len2, cap2, rfl⟩ := okWide_slice Tryd.underlying24 (hval 2 24 v2 rfl rfl)
  have k2 := h2
  have lt2 : ∀ x ∈ p2, x.block < W.heap.size := by obtain ⟨m, hm⟩ := k2; exact DataW.trod_lt m _ _ _ hm
  obtain ⟨z2, w2⟩ : ∃ zs, IsRow .i16 W a2 len2 cap2 zs := by
    obtain ⟨fuel, hf⟩ := h2
    rcases open_ints Tryd.underlying24 Tryd.underlying50 (by kernel_rfl) hf with ⟨hcs, _⟩ | ⟨x, l, c, zs, hcs, _, hl, hm, hz, _, hcell, hwz⟩
    · simp [Value.cells] at hcs
      obtain ⟨rfl, rfl, rfl⟩ := hcs
      exact ⟨[], .inl ⟨rfl, rfl, rfl, rfl⟩⟩
    · simp [Value.cells] at hcs
      obtain ⟨rfl, rfl, rfl⟩ := hcs
      exact ⟨zs, .inr ⟨_, rfl, hl, hm, by simpa using hz, hcell, hwz⟩⟩
  obtain ⟨a3, rfl, rfl, rfl, w3⟩ := open_int Tryd.underlying5 (hval 3 5 v3 rfl rfl) h3
  obtain ⟨a4, rfl, rfl, rfl, w4⟩ := open_int Tryd.underlying5 (hval 4 5 v4 rfl rfl) h4
  obtain ⟨a5, rfl, rfl, rfl, w5⟩ := open_int Tryd.underlying5 (hval 5 5 v5 rfl rfl) h5
  obtain ⟨g0, g1, g2, g3, g4, g5, g6, rfl⟩ : ∃ g0 g1 g2 g3 g4 g5 g6, gs = [g0, g1, g2, g3, g4, g5, g6] := by
    have hl := vars_len hV
    match gs, hl with
    | [g0, g1, g2, g3, g4, g5, g6], _ => exact ⟨g0, g1, g2, g3, g4, g5, g6, rfl⟩
  clear hA0 hval0
  refine (FnGlyfWaysW.row a0 w0 a1 len1 cap1 z1 a2 len2 cap2 z2 a3 w3 a4 w4 a5 w5 W w1 w2).mono fun e W' ⟨he, bel⟩ => ?_
  subst he
  exact ⟨_, rfl, _, _, _, [], _, _, hW', trodAll_mk1 (shut_bool Tryd.underlying4 _), (trodAll_cons_mk (shut_int Tryd.underlying22 w0) (trodAll_cons_mk (Below.trod laidOut (by kernel_rfl) (of_decide_eq_true (by kernel_rfl)) k1 bel lt1) (trodAll_cons_mk (Below.trod laidOut (by kernel_rfl) (of_decide_eq_true (by kernel_rfl)) k2 bel lt2) (trodAll_cons_mk (shut_int Tryd.underlying5 w3) (trodAll_cons_mk (shut_int Tryd.underlying5 w4) (trodAll_cons_mk (shut_int Tryd.underlying5 w5) trodAll_mk0)))))), Below.trodVars laidOut bel (by kernel_rfl) hV, bel.frame _, fun h => by cases h⟩

theorem said : Rows.FnGlyfWaysSaid :=
  OpenClaim.holds_of_cond 4 Tryd.f4 rfl rfl rfl rfl rfl rfl rfl ⟨rfl, rfl, rfl, rfl, rfl⟩ rfl rfl rfl rfl rfl (by kernel_rfl) Tryd.func4 (by kernel_rfl)
    (of_decide_eq_true (by kernel_rfl)) (by unfold Func.isWrapper; first | (rw [if_pos (by decide +kernel)]; kernel_rfl) | (rw [if_neg (by decide +kernel)]; exact ⟨rfl, rfl⟩))
    (fun os started H enc _ F => by rw [OpenClaim.pre_eq_preRow]; exact lifted os started H enc F)

/-- No parameter wants a stand-in; the program's own looks are off. -/
theorem plain (f : FuncId) (fn : Func) (hf : Tryd.pinned.checked.prog.funcNamed "loop.example/pub-g03433/laws.FnGlyfWays" = some f) (hfn : Tryd.pinned.checked.prog.funcs[f]? = some fn) :
    true = Tryd.pinned.checked.prog.looks [] ∧ ∀ (j : Nat) t, fn.params[j]? = some t → Tryd.pinned.checked.prog.wantsStandIn t = false := by
  obtain rfl : f = 4 := Option.some.inj ((show Tryd.prog.funcNamed "loop.example/pub-g03433/laws.FnGlyfWays" = some 4 by kernel_rfl).symm.trans hf) |>.symm
  obtain rfl : fn = Tryd.f4 := (Option.some.inj (Tryd.func4.symm.trans hfn)).symm
  refine ⟨by kernel_rfl, fun j t ht => ?_⟩
  rw [Tryd.params4] at ht
  have hm := Array.mem_of_getElem? ht
  have hm2 : t = 22 ∨ t = 23 ∨ t = 24 ∨ t = 5 ∨ t = 5 ∨ t = 5 := by simpa using hm
  rcases hm2 with rfl | rfl | rfl | rfl | rfl | rfl
  · exact (show Tryd.prog.wantsStandIn 22 = false by kernel_rfl)
  · exact (show Tryd.prog.wantsStandIn 23 = false by kernel_rfl)
  · exact (show Tryd.prog.wantsStandIn 24 = false by kernel_rfl)
  · exact (show Tryd.prog.wantsStandIn 5 = false by kernel_rfl)
  · exact (show Tryd.prog.wantsStandIn 5 = false by kernel_rfl)
  · exact (show Tryd.prog.wantsStandIn 5 = false by kernel_rfl)

theorem card : Rows.FnGlyfWaysCardSaid :=
  Claim7.holds_tied_plain_at .later [] _ _ _ _ said (fun _ h => by cases h) (by kernel_rfl) (fun _ h => by cases h) fnGlyfWays_row_tie rfl ⟨rfl, rfl⟩ (by kernel_rfl) rfl plain (by kernel_rfl)
end Go.Proofs.YtdeaodgcdacleaaDoor.fnGlyfWays
