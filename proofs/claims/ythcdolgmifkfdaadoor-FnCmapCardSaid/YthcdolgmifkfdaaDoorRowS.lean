/- Structs of many cells: made, filled as one. No function of the program in sight. -/
import Derived.Test.YthcdolgmifkfdaaDoorRowG
import Derived.Laws.Rows
namespace Go.Proofs.YthcdolgmifkfdaaDoor.RowS
open Go.ChangeShapes Go.WideShapes Go.ChangeAt Go.RowKit
open Lst Mem RowG
section
variable {P : Program} {w w' : World}
theorem al_any {t : TypeId} {zs : List Value} {ops : Array Oper} {rest : List Oper} {o : Oper} {a : Act} {Q : Exit → Act → World → Prop} (hgd : o.guard = none) (ho : o.op = .alloc t) (hz : (zeroValue t).run P w = .ok (.agg zs.toArray) w)
    (h : ∀ Z, w.alloc (.cells zs.toArray t) = Z → wpList P ops Q rest (a.put o.dst (.pointer (some ⟨w.heap.size, 0, none⟩))) Z) : wpList P ops Q (o :: rest) a w := by
  refine wpList_plain hgd fun K hK => ?_
  unfold Oper.wp execOp
  simp only [ho]
  have := hK _ _ (h _ rfl)
  clear h hK
  go_simp
  exact this
theorem st_row_eq {ops : Array Oper} {rest : List Oper} {o : Oper} {a : Act} {Q : Exit → Act → World → Prop} (hgd : o.guard = none) (ty : TypeId) (x y : Operand) (ho : o.op = .store ty x y)
    (g : Nat) (cells : Array Value) (hx : a.eval x = .pointer (some ⟨g, 0, none⟩)) (hy : a.eval y = .agg cells) (t : TypeId) (old : Array Value) (hg : w.heap[g]? = some (.cells old t (0, 0))) (hi : (P.info? ty).map (·.size) = some cells.size)
    (hold : old.size = cells.size) (h1 : cells.all (·.oneCell') = true) (h : ∀ Z, w.setRow g cells = Z → wpList P ops Q rest (a.put o.dst undef) Z) : wpList P ops Q (o :: rest) a w :=
  wpList_store_row hgd ty x y ho g cells hx hy t old hg hi hold h1 (h _ rfl)
theorem setRow_other {g i : Nat} {c : Array Value} (h : g ≠ i) : (w.setRow g c).heap[i]? = w.heap[i]? := by
  simp only [World.setRow, Array.getElem?_modify]
  rw [if_neg h]
theorem blk_row {b : Nat} {t : TypeId} {cs : List Value} (h : Blk b t cs w) (c : Array Value) : Blk b t c.toList (w.setRow b c) := by
  have := setRow_heap w b _ c t (0, 0) h
  unfold Blk
  rw [this]
theorem bel_row {B g : Nat} {c : Array Value} (h : Below B w w') (hg : B ≤ g) : Below B w (w'.setRow g c) := by
  obtain ⟨a, b, c', d, e⟩ := h
  exact ⟨a, b, c', by simpa [World.setRow] using d, fun i hi => (setRow_other (by omega)).trans (e i hi)⟩
theorem bu_any {ops : Array Oper} {rest : List Oper} {o : Oper} {a : Act} {Q : Exit → Act → World → Prop} (hg : o.guard = none) (t : TypeId) (parts : Array (Nat × Operand)) (ho : o.op = .build t parts) (cs : Array Value)
    (hb : P.built t (parts.map fun (i, x) => (i, a.eval x)).toList = some cs) (h : wpList P ops Q rest (a.put o.dst (.agg cs)) w) : wpList P ops Q (o :: rest) a w :=
  wpList_build hg t parts ho (by rw [hb]; rfl) (by rw [hb]; exact h)
end
end Go.Proofs.YthcdolgmifkfdaaDoor.RowS
