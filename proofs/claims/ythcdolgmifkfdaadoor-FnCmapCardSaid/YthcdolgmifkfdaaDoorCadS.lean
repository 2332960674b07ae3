/- The making of a font: the map of its letters, its fullness. -/
import Derived.Test.YthcdolgmifkfdaaDoorCadR
import Derived.Carry
namespace Go.Proofs.YthcdolgmifkfdaaDoor.CadS
open Go.ChangeShapes Go.WideShapes Go.ChangeAt Go.RowKit Go.Maps
open Lst Mem RowG GlyM GlyN GlyO MadN CadL CadF CadG CadH CadI CadJ CadP CadQ CadR
set_option linter.unusedSimpArgs false
set_option linter.unusedVariables false
variable {LV : Value} {fm : Int} {ps : List Pr}
set_option maxRecDepth 4000
set_option maxHeartbeats 60000000 in
set_option maxRecDepth 4000 in
theorem r7 (f : Int) (wa N : Nat) (GA A : Option Addr) (gc m cap mb : Nat) (ms : List Int) (Gs : List Gl) (cs : List Value) (w W : World) (a : Act) (c : Code) (hc : c = dropC 7 body) (ha : Fr LV f w.heap.size mb a) (hI : Inv fm [] w wa N GA gc Gs A m cap ms mb cs W) (h9 : cs[9]? = some (.slice none 0 0)) (hv : cs[8]? = some (.slice none 0 0)) (hf : 0 ≤ f ∧ f ≤ 4294967295) (hLt : Ltr w LV) : Code.wp Tryd.prog c (EndsM fm w wa) a W := by
  rw [hc]
  conv in (dropC _ _) => whnf
  obtain ⟨S, he, hS⟩ := ha.open_
  subst he
  clear ha hc hS
  have hmm := @run_makeMap Tryd.prog
  have hbm := World.ownsMap_made (H := Unit) W Tryd.prog 3 (plainElem Tryd.prog 3)
  have hbB : w.heap.size ≤ W.heap.size := by have := hI.sz; omega
  have hI' := hI.below ((Below.refl W.heap.size W).alloc (Nat.le_refl _) (.map #[] 0))
  repeat (first | (refine r8 f wa N GA A gc m cap mb ms Gs _ w _ _ _ (by kernel_rfl) (by exact ⟨rfl, rfl, rfl, rfl, rfl, rfl, rfl⟩) hI' h9 hv W.heap.size rfl hbm hbB hf hLt) | go_values | go_skip | go_guarded | go_step | go_upon | go_back | go_simp)
set_option maxHeartbeats 60000000 in
set_option maxRecDepth 4000 in
theorem r6 (f : Int) (wa N : Nat) (GA A : Option Addr) (gc m cap mb : Nat) (ms : List Int) (Gs : List Gl) (cs : List Value) (w W : World) (a : Act) (c : Code) (hc : c = dropC 6 body) (ha : Fr LV f w.heap.size mb a) (hI : Inv fm [] w wa N GA gc Gs A m cap ms mb cs W) (h9 : cs[9]? = some (.slice none 0 0)) (hv : cs[8]? = some (.slice none 0 0)) (hf : 0 ≤ f ∧ f ≤ 4294967295) (hLt : Ltr w LV) : Code.wp Tryd.prog c (EndsM fm w wa) a W := by
  rw [hc]
  conv in (dropC _ _) => whnf
  obtain ⟨S, he, hS⟩ := ha.open_
  subst he
  clear ha hc hS
  have hN := hI.2.2.2.2.1
  have hN0 : 0 < N := hN.1
  have hN9 : N ≤ 9 := hN.2
  clear hN
  obtain ⟨q, hq⟩ : ∃ q : Nat, (f / 16384).tmod (N : Int) = (q : Int) := ⟨((f / 16384).tmod (N : Int)).toNat, by have := Int.tmod_nonneg (a := f / 16384) (N : Int) (by omega); omega⟩
  have hqK : q < N := by have := Int.tmod_lt_of_pos (f / 16384) (b := (N : Int)) (by omega); omega
  have hq9 : q < 9 := by omega
  have wq1 : IntKind.i64.wrap (f / 16384) = f / 16384 := IntWalk.i64_in _ (by omega)
  have wq2 : IntKind.i64.wrap (q : Int) = (q : Int) := IntWalk.i64_in _ (by omega)
  have wq3 : IntKind.i64.wrap (1 + (q : Int)) = 1 + (q : Int) := IntWalk.i64_in _ (by omega)
  have hn1 : ¬ (N = 0) := by omega
  have hn3 : ((N : Int) == 0) = false := by simp; omega
  have c1 := hI.cell1
  repeat (first | (refine r7 f wa N GA A gc m cap mb ms Gs _ w _ _ _ (by kernel_rfl) (by exact ⟨rfl, rfl, rfl, rfl, rfl, rfl, rfl⟩) hI1 (by rw [hc1 9 (by decide)]; exact h9) (by rw [hc1 8 (by decide)]; exact hv) hf hLt) | (refine st_inv rfl rfl rfl rfl rfl (by omega) (by with_reducible assumption) ?_; intro cs1 W1 hI1 hc1) | go_values | go_skip | go_guarded | go_step | go_upon | go_back | go_simp)
end Go.Proofs.YthcdolgmifkfdaaDoor.CadS
