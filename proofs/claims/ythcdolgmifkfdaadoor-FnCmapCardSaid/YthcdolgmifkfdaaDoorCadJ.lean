/- The making of a font: its fullness, its letters (of none). -/
import Derived.Test.YthcdolgmifkfdaaDoorCadI
import Derived.Carry
import Derived.Deep.RegionHeld3
import Derived.Deep.CutBlock
import Derived.Deep.QuietTactic
import Derived.BigQuiet
namespace Go.Proofs.YthcdolgmifkfdaaDoor.CadJ
open Go.ChangeShapes Go.WideShapes Go.ChangeAt Go.RowKit
open Lst Mem RowG GlyM GlyN GlyO MadN CadL CadF
set_option linter.unusedSimpArgs false
set_option linter.unusedVariables false
variable {LV : Value} {fm : Int} {ps : List Pr}
open CadG CadH CadI
set_option maxRecDepth 4000
theorem alloc_at (W : World) (o : Obj) : (W.alloc o).heap[W.heap.size]? = some o := heap_alloc_new W o
theorem len_empty {W : World} {b : Nat} (hb : W.heap[b]? = some (.map #[] 0)) : (Builtin.len_ #[55] 3 #[.map (some b)]).run Tryd.prog W = .ok (.int .i64 0) W := by
  simp [Builtin.len_, run_underlying (show Tryd.prog.underlying 55 = some (.map 3 3) from rfl), MapKept.run_getObj_map hb, goInt, Result.andThen]
set_option maxHeartbeats 60000000 in
set_option maxRecDepth 4000 in
theorem r10 (f : Int) (wa N : Nat) (GA A : Option Addr) (gc m cap mb : Nat) (ms : List Int) (Gs : List Gl) (cs : List Value) (w W : World) (a : Act) (c : Code) (hc : c = dropC 10 body) (ha : Fr LV f w.heap.size mb a) (hI : Inv fm ps w wa N GA gc Gs A m cap ms mb cs W) (h9 : cs[9]? = some (.slice none 0 0)) (hv : cs[8]? = some (.slice none 0 0)) (hf : 0 ≤ f ∧ f ≤ 4294967295) : Code.wp Tryd.prog c (EndsM fm w wa) a W := by
  rw [hc]
  conv in (dropC _ _) => whnf
  obtain ⟨S, he, hS⟩ := ha.open_
  subst he
  clear ha hc hS
  have c1 := hI.cell1
  repeat (first | (refine r11 f wa N GA A gc m cap mb ms Gs _ w _ _ _ (by kernel_rfl) (by exact ⟨rfl, rfl, rfl, rfl, rfl, rfl, rfl⟩) (by with_reducible assumption) h9 hv rfl hf) | go_values | go_skip | go_guarded | go_step | go_upon | go_back | go_simp)

end Go.Proofs.YthcdolgmifkfdaaDoor.CadJ
