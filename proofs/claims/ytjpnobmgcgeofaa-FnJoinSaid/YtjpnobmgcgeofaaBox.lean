/- Memory of a call's own, for functions that hand back structs: a box that is still to be written, the store that writes it whole, and what stays as it was. No function of the program in sight. -/
import Derived.WalkKit
import Derived.ProofKit
import Derived.OpenShut
import Derived.Lib.Hide
import Derived.Laws.Tables
import Derived.RegionTactic
import Derived.Deep.Quiet
namespace Go.Proofs.Ytjpnobmgcgeofaa.Box
open Go.ChangeShapes Go.WideShapes Go.RowKit

theorem bcell {W w1 : World} (hb : Below W.heap.size W w1) : (∀ b o, b < W.heap.size → w1.cell? ⟨b, o, none⟩ = W.cell? ⟨b, o, none⟩) ∧ (∀ b o, b < W.heap.size → w1.frozen? ⟨b, o, none⟩ = W.frozen? ⟨b, o, none⟩) :=
  ⟨fun b o h => hb.cell (p := ⟨b, o, none⟩) h, fun b o h => hb.frozen (p := ⟨b, o, none⟩) h⟩
theorem bel_drewN {B : Nat} {w w' : World} (h : Below B w w') (n : Nat) : Below B w (w'.drewN n) := h.trans ⟨rfl, rfl, rfl, Nat.le_refl _, fun _ _ => rfl⟩
theorem bel_alloc {w w' : World} (h : Below w.heap.size w w') (o : Obj) : Below w.heap.size w (w'.alloc o) := h.alloc h.size o
theorem bel_trans {w w1 w2 : World} (h : Below w.heap.size w w1) (k : Below w1.heap.size w1 w2) : Below w.heap.size w w2 := h.trans (k.mono h.size)
theorem keep_alloc {W : World} {p : Addr} {v : Value} {o : Obj} (h : W.cell? p = some v) : (W.alloc o).cell? p = some v := by
  rw [World.cell?_alloc_lt _ _ _ (World.block_lt_of_cell? W p h)]; exact h
theorem keep_cell {W w1 : World} {B : Nat} (hb : Below B W w1) (hB : W.heap.size = B) {p : Addr} {v : Value} (h : W.cell? p = some v) : w1.cell? p = some v := by
  subst hB
  rw [hb.cell (World.block_lt_of_cell? W p h)]; exact h

/-- block r is a box of n cells of type t, none of them frozen -/
def IsBox (r : Nat) (t : TypeId) (n : Nat) (w : World) : Prop := ∃ old : Array Value, w.heap[r]? = some (.cells old t (0, 0)) ∧ old.size = n
/-- w' is w with box g written whole -/
def Wrote (g : Nat) (t : TypeId) (cs : Array Value) (w w' : World) : Prop :=
  w'.heap[g]? = some (.cells cs t (0, 0)) ∧ (∀ k, k ≠ g → w'.heap[k]? = w.heap[k]?) ∧ w'.heap.size = w.heap.size ∧ w'.os = w.os ∧ w'.tape = w.tape ∧ w'.output = w.output

theorem lt_of_heap {w : World} {r : Nat} {o : Obj} (h : w.heap[r]? = some o) : r < w.heap.size := (Array.getElem?_eq_some_iff.1 h).1
theorem IsBox.lt {r : Nat} {t : TypeId} {n : Nat} {w : World} (h : IsBox r t n w) : r < w.heap.size := by
  obtain ⟨_, h, _⟩ := h
  exact lt_of_heap h
theorem IsBox.step {r : Nat} {t : TypeId} {n B : Nat} {W w1 : World} (h : IsBox r t n W) (hb : Below B W w1) (hB : W.heap.size = B) : IsBox r t n w1 := by
  subst hB
  obtain ⟨old, h1, h2⟩ := h
  exact ⟨old, (hb.block r (lt_of_heap h1)).trans h1, h2⟩
theorem IsBox.new (w : World) (cs : Array Value) (t : TypeId) : IsBox w.heap.size t cs.size (w.alloc (.cells cs t)) := ⟨cs, heap_alloc_new w _, rfl⟩
theorem IsBox.new_ {w : World} {cs : Array Value} {t : TypeId} {r n : Nat} (hr : r = w.heap.size) (hn : cs.size = n) : IsBox r t n (w.alloc (.cells cs t)) := by
  subst hr hn
  exact IsBox.new w cs t
theorem IsBox.drew {r : Nat} {t : TypeId} {n : Nat} {w : World} (h : IsBox r t n w) : IsBox r t n w.drew := h
theorem IsBox.wrote {r : Nat} {t : TypeId} {cs : Array Value} {w w' : World} (h : Wrote r t cs w w') : IsBox r t cs.size w' := ⟨cs, h.1, rfl⟩
theorem bel_wrote {w W W' : World} {g : Nat} {t : TypeId} {cs : Array Value} (h : Below w.heap.size w W) (hg : w.heap.size ≤ g) (hw : Wrote g t cs W W') : Below w.heap.size w W' :=
  h.trans ⟨hw.2.2.2.1, hw.2.2.2.2.1, hw.2.2.2.2.2, Nat.le_of_eq hw.2.2.1.symm, fun k hk => hw.2.1 k (by omega)⟩
theorem keep_wrote {W W' : World} {g : Nat} {t : TypeId} {cs : Array Value} (hw : Wrote g t cs W W') {b o : Nat} {v : Value} (hb : b ≠ g) (h : W.cell? ⟨b, o, none⟩ = some v) : W'.cell? ⟨b, o, none⟩ = some v := by
  rw [World.cell?_of_block (a := ⟨b, o, none⟩) (hw.2.1 b hb)]; exact h
theorem Wrote.two {g : Nat} {t : TypeId} {x y : Value} {w w' : World} (h : Wrote g t #[x, y] w w') : w'.cell? ⟨g, 0, none⟩ = some x ∧ w'.cell? ⟨g, 1, none⟩ = some y := by
  constructor <;> rw [cell_of_row w' g _ _ t (0, 0) h.1] <;> rfl
theorem Wrote.four {g : Nat} {t : TypeId} {x y u v : Value} {w w' : World} (h : Wrote g t #[x, y, u, v] w w') : w'.cell? ⟨g, 0, none⟩ = some x ∧ w'.cell? ⟨g, 1, none⟩ = some y ∧ w'.cell? ⟨g, 2, none⟩ = some u ∧ w'.cell? ⟨g, 3, none⟩ = some v := by
  refine ⟨?_, ?_, ?_, ?_⟩ <;> rw [cell_of_row w' g _ _ t (0, 0) h.1] <;> rfl

section
variable {P : Program}
theorem wrote_setRow {w : World} {g : Nat} {t : TypeId} {old cs : Array Value} (hg : w.heap[g]? = some (.cells old t (0, 0))) : Wrote g t cs w (w.setRow g cs) := by
  refine ⟨setRow_heap w g old cs t (0, 0) hg, fun k hk => ?_, by simp [World.setRow], rfl, rfl, rfl⟩
  simp only [World.setRow, Array.getElem?_modify]
  rw [if_neg (by omega)]
/-- THE STORE OF A WHOLE STRUCT INTO A BOX OF THE CALL's OWN, inside a region that draws its order -/
theorem step_store_box {ops : Array Oper} {o : Oper} {a : Act} {w : World} {K : Act → World → Prop} {Q : Exit → Act → World → Prop} {E : Prop} (hgd : o.guard = none) (ty : TypeId) (x y : Operand) (ho : o.op = .store ty x y)
    (g : Nat) (cells : Array Value) (hx : a.eval x = .pointer (some ⟨g, 0, none⟩)) (hy : a.eval y = .agg cells) (t : TypeId) (n : Nat) (hi : (P.info? ty).map (·.size) = some n) (hn : cells.size = n)
    (h1 : cells.all (·.oneCell') = true) (hb : IsBox g t n w)
    (h : ∀ w', Wrote g t cells w w' → K (a.put o.dst undef) w') : if Region.wanted o (yielded ops a.tmps) = true then Oper.wp P o a w K Q else E := by
  have hw : Region.wanted o (yielded ops a.tmps) = true := by simp [Region.wanted, hgd]
  rw [if_pos hw]
  obtain ⟨old, hg, hs⟩ := hb
  exact wp_store_row ty x y ho g cells hx hy t old hg (by rw [hn]; exact hi) (by omega) h1 (h _ (wrote_setRow hg))
end
end Go.Proofs.Ytjpnobmgcgeofaa.Box
