/- The making of a font: its fullness, its letters (of none). -/
import Derived.Test.YtdeaodgcdacleaaMadI
import Derived.Carry
import Derived.Deep.RegionHeld3
import Derived.Deep.CutBlock
import Derived.Deep.QuietTactic
import Derived.BigQuiet
namespace Go.Proofs.Ytdeaodgcdacleaa.MadJ
open Go.ChangeShapes Go.WideShapes Go.ChangeAt Go.RowKit
open Lst Mem RowG GlyM GlyN GlyO MadN MadL MadF
set_option linter.unusedSimpArgs false
open MadG MadH MadI
theorem alloc_at (W : World) (o : Obj) : (W.alloc o).heap[W.heap.size]? = some o := heap_alloc_new W o
theorem len_empty {W : World} {b : Nat} (hb : W.heap[b]? = some (.map #[] 0)) : (Builtin.len_ #[54] 3 #[.map (some b)]).run Try.prog W = .ok (.int .i64 0) W := by
  simp [Builtin.len_, run_underlying (show Try.prog.underlying 54 = some (.map 3 3) from rfl), MapKept.run_getObj_map hb, goInt, Result.andThen]
set_option maxHeartbeats 60000000 in
set_option maxRecDepth 4000 in
theorem r10 (f : Int) (wa N : Nat) (GA A : Option Addr) (gc m cap mb : Nat) (ms : List Int) (Gs : List Gl) (cs : List Value) (w W : World) (a : Act) (c : Code) (hc : c = dropC 10 body) (ha : Fr f w.heap.size mb a) (hI : Inv w wa N GA gc Gs A m cap ms mb cs W) (h9 : cs[9]? = some (.slice none 0 0)) (hv : cs[8]? = some (.slice none 0 0)) (hf : 0 ≤ f ∧ f ≤ 4294967295) : Code.wp Try.prog c (EndsM w wa) a W := by
  rw [hc]
  conv in (dropC _ _) => whnf
  obtain ⟨S, he, hS⟩ := ha.open_
  subst he
  clear ha hc hS
  have c1 := hI.cell1
  repeat (first | (refine r11 f wa N GA A gc m cap mb ms Gs _ w _ _ _ (by kernel_rfl) (by exact ⟨rfl, rfl, rfl, rfl, rfl, rfl, rfl⟩) (by with_reducible assumption) h9 hv rfl hf) | go_values | go_skip | go_guarded | go_step | go_upon | go_back | go_simp)
set_option maxHeartbeats 60000000 in
set_option maxRecDepth 4000 in
theorem r9 (f : Int) (wa N : Nat) (GA A : Option Addr) (gc m cap mb : Nat) (ms : List Int) (Gs : List Gl) (cs : List Value) (w W : World) (a : Act) (c : Code) (hc : c = dropC 9 body) (ha : Fr f w.heap.size mb a) (hI : Inv w wa N GA gc Gs A m cap ms mb cs W) (h9 : cs[9]? = some (.slice none 0 0)) (hv : cs[8]? = some (.slice none 0 0)) (b : Nat) (h14 : a.tmps[14]? = some (.map (some b))) (hb : W.heap[b]? = some (.map #[] 0)) (hf : 0 ≤ f ∧ f ≤ 4294967295) : Code.wp Try.prog c (EndsM w wa) a W := by
  rw [hc]
  conv in (dropC _ _) => whnf
  obtain ⟨S, he, hS⟩ := ha.open_
  have e14 := hS 14 _ h14
  clear h14
  subst he
  clear ha hc hS
  rw [e14]
  clear e14
  go_wp2
  go_loopw [] (fun wr => W = wr) (fun _ => 0)
  case atStart => rfl
  case round =>
    subst hrel
    have hln := len_empty hb
    repeat (first | (refine r10 f wa N GA A gc m cap mb ms Gs _ w _ _ _ (by kernel_rfl) (by exact ⟨rfl, rfl, rfl, rfl, rfl, rfl, rfl⟩) (by with_reducible assumption) h9 hv hf) | go_values | go_skip | go_guarded | go_step | go_upon | go_back | go_simp)
set_option maxHeartbeats 60000000 in
set_option maxRecDepth 4000 in
theorem r8 (f : Int) (wa N : Nat) (GA A : Option Addr) (gc m cap mb : Nat) (ms : List Int) (Gs : List Gl) (cs : List Value) (w W : World) (a : Act) (c : Code) (hc : c = dropC 8 body) (ha : Fr f w.heap.size mb a) (hI : Inv w wa N GA gc Gs A m cap ms mb cs W) (h9 : cs[9]? = some (.slice none 0 0)) (hv : cs[8]? = some (.slice none 0 0)) (b : Nat) (h14 : a.tmps[14]? = some (.map (some b))) (hb : W.heap[b]? = some (.map #[] 0)) (hf : 0 ≤ f ∧ f ≤ 4294967295) : Code.wp Try.prog c (EndsM w wa) a W := by
  rw [hc]
  conv in (dropC _ _) => whnf
  obtain ⟨S, he, hS⟩ := ha.open_
  have e14 := hS 14 _ h14
  clear h14
  subst he
  clear ha hc hS
  rw [e14]
  clear e14
  go_wp2
  go_loopw [141] (fun i wr => i = .int .i64 0 ∧ W = wr) (fun _ _ => 0)
  case atStart => exact ⟨rfl, rfl⟩
  case round =>
    obtain ⟨rfl, rfl⟩ := hrel
    repeat (first | (refine r9 f wa N GA A gc m cap mb ms Gs _ w _ _ _ (by kernel_rfl) (by exact ⟨rfl, rfl, rfl, rfl, rfl, rfl, rfl⟩) (by with_reducible assumption) h9 hv b rfl hb hf) | go_values | go_skip | go_guarded | go_step | go_upon | go_back | go_simp)
set_option maxHeartbeats 60000000 in
set_option maxRecDepth 4000 in
theorem r7 (f : Int) (wa N : Nat) (GA A : Option Addr) (gc m cap mb : Nat) (ms : List Int) (Gs : List Gl) (cs : List Value) (w W : World) (a : Act) (c : Code) (hc : c = dropC 7 body) (ha : Fr f w.heap.size mb a) (hI : Inv w wa N GA gc Gs A m cap ms mb cs W) (h9 : cs[9]? = some (.slice none 0 0)) (hv : cs[8]? = some (.slice none 0 0)) (hf : 0 ≤ f ∧ f ≤ 4294967295) : Code.wp Try.prog c (EndsM w wa) a W := by
  rw [hc]
  conv in (dropC _ _) => whnf
  obtain ⟨S, he, hS⟩ := ha.open_
  subst he
  clear ha hc hS
  have hmm := @run_makeMap Try.prog
  have hbm := alloc_at W (.map #[] 0)
  have hI' := hI.below ((Below.refl W.heap.size W).alloc (Nat.le_refl _) (.map #[] 0))
  repeat (first | (refine r8 f wa N GA A gc m cap mb ms Gs _ w _ _ _ (by kernel_rfl) (by exact ⟨rfl, rfl, rfl, rfl, rfl, rfl, rfl⟩) hI' h9 hv W.heap.size rfl hbm hf) | go_values | go_skip | go_guarded | go_step | go_upon | go_back | go_simp)
set_option maxHeartbeats 60000000 in
set_option maxRecDepth 4000 in
theorem r6 (f : Int) (wa N : Nat) (GA A : Option Addr) (gc m cap mb : Nat) (ms : List Int) (Gs : List Gl) (cs : List Value) (w W : World) (a : Act) (c : Code) (hc : c = dropC 6 body) (ha : Fr f w.heap.size mb a) (hI : Inv w wa N GA gc Gs A m cap ms mb cs W) (h9 : cs[9]? = some (.slice none 0 0)) (hv : cs[8]? = some (.slice none 0 0)) (hf : 0 ≤ f ∧ f ≤ 4294967295) : Code.wp Try.prog c (EndsM w wa) a W := by
  rw [hc]
  conv in (dropC _ _) => whnf
  obtain ⟨S, he, hS⟩ := ha.open_
  subst he
  clear ha hc hS
  have hN := hI.2.2.2.2.1
  have hN0 : 0 < N := hN.1
  have hN9 : N ≤ 9 := hN.2
  clear hN
  obtain ⟨q, hq⟩ : ∃ q : Nat, (f / 16384).tmod (N : Int) = (q : Int) := ⟨((f / 16384).tmod (N : Int)).toNat, by have := Int.tmod_nonneg (a := f / 16384) (N : Int) (by omega); omega⟩
  have hqK : q < N := by have := Int.tmod_lt_of_pos (f / 16384) (b := (N : Int)) (by omega); omega
  have hq9 : q < 9 := by omega
  have wq1 : IntKind.i64.wrap (f / 16384) = f / 16384 := IntWalk.i64_in _ (by omega)
  have wq2 : IntKind.i64.wrap (q : Int) = (q : Int) := IntWalk.i64_in _ (by omega)
  have wq3 : IntKind.i64.wrap (1 + (q : Int)) = 1 + (q : Int) := IntWalk.i64_in _ (by omega)
  have hn1 : ¬ (N = 0) := by omega
  have hn3 : ((N : Int) == 0) = false := by simp; omega
  have c1 := hI.cell1
  repeat (first | (refine r7 f wa N GA A gc m cap mb ms Gs _ w _ _ _ (by kernel_rfl) (by exact ⟨rfl, rfl, rfl, rfl, rfl, rfl, rfl⟩) hI1 (by rw [hc1 9 (by decide)]; exact h9) (by rw [hc1 8 (by decide)]; exact hv) hf) | (refine st_inv rfl rfl rfl rfl rfl (by omega) (by with_reducible assumption) ?_; intro cs1 W1 hI1 hc1) | go_values | go_skip | go_guarded | go_step | go_upon | go_back | go_simp)
end Go.Proofs.Ytdeaodgcdacleaa.MadJ
