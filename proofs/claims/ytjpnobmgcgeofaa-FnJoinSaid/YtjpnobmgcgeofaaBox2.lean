/- A box of four cells of the call's own, written whole in a world of which only its shape is known. No function of the program in sight. -/
import Derived.Test.YtjpnobmgcgeofaaBox
namespace Go.Proofs.Ytjpnobmgcgeofaa.Box
open Go.ChangeShapes Go.WideShapes Go.RowKit

def Boxed4 (r : Nat) (w : World) : Prop := ∃ (t : TypeId) (old : Array Value), w.heap[r]? = some (.cells old t (0, 0)) ∧ old.size = 4
theorem Boxed4.new_ {w : World} {a b c d : Value} {t : TypeId} {r : Nat} (hr : r = w.heap.size) : Boxed4 r (w.alloc (.cells #[a, b, c, d] t)) := by
  subst hr
  exact ⟨t, _, heap_alloc_new w _, rfl⟩
theorem Boxed4.drew {r : Nat} {w : World} (h : Boxed4 r w) : Boxed4 r w.drew := h
theorem Boxed4.step {r B : Nat} {W w1 : World} (h : Boxed4 r W) (hb : Below B W w1) (hB : W.heap.size = B) : Boxed4 r w1 := by
  subst hB
  obtain ⟨t, old, h1, h2⟩ := h
  exact ⟨t, old, (hb.block r (lt_of_heap h1)).trans h1, h2⟩
theorem Boxed4.cell {r : Nat} {w : World} (h : Boxed4 r w) {i : Nat} (hi : i < 4) : (w.cell? ⟨r, i, none⟩).isSome = true ∧ w.frozen? ⟨r, i, none⟩ = false := by
  obtain ⟨t, c, h1, h2⟩ := h
  have hc := cell_of_row w r i c t (0, 0) h1
  have hi' : i < c.size := by omega
  rw [Array.getElem?_eq_getElem hi'] at hc
  exact ⟨by rw [hc]; rfl, by simp [World.frozen?, h1]⟩
theorem Boxed4.set_ {r : Nat} {w : World} (h : Boxed4 r w) (i : Nat) (v : Value) : Boxed4 r (w.setCell ⟨r, i, none⟩ v) := by
  obtain ⟨t, c, h1, h2⟩ := h
  refine ⟨t, c.setIfInBounds i v, ?_, by simpa using h2⟩
  simp [World.setCell, Array.getElem?_modify, h1]
theorem Boxed4.unset {r : Nat} {w : World} {i : Nat} {v : Value} (h : Boxed4 r (w.setCell ⟨r, i, none⟩ v)) : Boxed4 r w := by
  obtain ⟨t, c, h1, h2⟩ := h
  simp only [World.setCell, Array.getElem?_modify] at h1
  cases hw : w.heap[r]? with
  | none => simp [hw] at h1
  | some o =>
    cases o with
    | cells d t' fr =>
      simp [hw] at h1
      obtain ⟨e1, e2, e3⟩ := h1
      subst e2 e3
      exact ⟨t', d, hw, by rw [← h2, ← e1]; simp⟩
    | _ => simp [hw] at h1
theorem boxed4_set {r i : Nat} {w : World} {v : Value} : Boxed4 r (w.setCell ⟨r, i, none⟩ v) ↔ Boxed4 r w := ⟨fun h => h.unset, fun h => h.set_ i v⟩
theorem stored_boxed4 {P : Program} {w : World} {r i : Nat} {v : Value} {m : Mode} (h : Boxed4 r w) (hi : i < 4) : stored P w ⟨r, i, none⟩ v m = .ok () (w.setCell ⟨r, i, none⟩ v) := by
  obtain ⟨hc, hf⟩ := h.cell hi
  unfold stored
  obtain ⟨u, hu⟩ := Option.isSome_iff_exists.1 hc
  simp [hu, hf]
theorem keep_set {W : World} {r i b o : Nat} {u v : Value} (hb : b ≠ r) (h : W.cell? ⟨b, o, none⟩ = some u) : (W.setCell ⟨r, i, none⟩ v).cell? ⟨b, o, none⟩ = some u := by
  rw [World.cell?_setCell_other W ⟨r, i, none⟩ ⟨b, o, none⟩ v (fun e => hb (by injection e with e; exact e.symm))]; exact h
theorem skip_set {W : World} {r i j : Nat} {u v : Value} (hij : j ≠ i) (h : W.cell? ⟨r, j, none⟩ = some u) : (W.setCell ⟨r, i, none⟩ v).cell? ⟨r, j, none⟩ = some u := by
  rw [World.cell?_setCell_other W ⟨r, i, none⟩ ⟨r, j, none⟩ v (fun e => hij (by injection e with _ e; exact e.symm))]; exact h
theorem Boxed4.got {r : Nat} {w : World} (h : Boxed4 r w) {i : Nat} (hi : i < 4) (v : Value) : (w.setCell ⟨r, i, none⟩ v).cell? ⟨r, i, none⟩ = some v := by
  obtain ⟨u, hu⟩ := Option.isSome_iff_exists.1 (h.cell hi).1
  exact World.cell?_setCell_same w _ v hu
/-- what cell i of box r holds, kept unopened -/
def old (r i : Nat) (w : World) : Value := (w.cell? ⟨r, i, none⟩).getD undef
theorem cell_old {r i : Nat} {w : World} (h : Boxed4 r w) (hi : i < 4) : w.cell? ⟨r, i, none⟩ = some (old r i w) := by
  obtain ⟨u, hu⟩ := Option.isSome_iff_exists.1 (h.cell hi).1
  rw [hu]; simp [old, hu]
theorem frozen_old {r i : Nat} {w : World} (h : Boxed4 r w) (hi : i < 4) : w.frozen? ⟨r, i, none⟩ = false := (h.cell hi).2
/-- a box written whole -/
def set4 (r : Nat) (a b c d : Value) (w : World) : World := (((w.setCell ⟨r, 0, none⟩ a).setCell ⟨r, 1, none⟩ b).setCell ⟨r, 2, none⟩ c).setCell ⟨r, 3, none⟩ d
theorem set4_keep {W : World} {r b o : Nat} {u a0 b0 c0 d0 : Value} (hb : b ≠ r) (h : W.cell? ⟨b, o, none⟩ = some u) : ((((W.setCell ⟨r, 0, none⟩ a0).setCell ⟨r, 1, none⟩ b0).setCell ⟨r, 2, none⟩ c0).setCell ⟨r, 3, none⟩ d0).cell? ⟨b, o, none⟩ = some u :=
  keep_set hb (keep_set hb (keep_set hb (keep_set hb h)))
theorem set4_box {W : World} {r : Nat} {a0 b0 c0 d0 : Value} (h : Boxed4 r W) : Boxed4 r ((((W.setCell ⟨r, 0, none⟩ a0).setCell ⟨r, 1, none⟩ b0).setCell ⟨r, 2, none⟩ c0).setCell ⟨r, 3, none⟩ d0) := (((h.set_ _ _).set_ _ _).set_ _ _).set_ _ _
theorem set4_bel {w W : World} {r : Nat} {a0 b0 c0 d0 : Value} (h : Below w.heap.size w W) (hr : w.heap.size ≤ r) : Below w.heap.size w ((((W.setCell ⟨r, 0, none⟩ a0).setCell ⟨r, 1, none⟩ b0).setCell ⟨r, 2, none⟩ c0).setCell ⟨r, 3, none⟩ d0) :=
  (((h.setCell (p := ⟨r, 0, none⟩) hr _).setCell (p := ⟨r, 1, none⟩) hr _).setCell (p := ⟨r, 2, none⟩) hr _).setCell (p := ⟨r, 3, none⟩) hr _
theorem Boxed4.four {r : Nat} {w : World} {a b c d : Value} (h : Boxed4 r ((((w.setCell ⟨r, 0, none⟩ a).setCell ⟨r, 1, none⟩ b).setCell ⟨r, 2, none⟩ c).setCell ⟨r, 3, none⟩ d)) :
    ((((w.setCell ⟨r, 0, none⟩ a).setCell ⟨r, 1, none⟩ b).setCell ⟨r, 2, none⟩ c).setCell ⟨r, 3, none⟩ d).cell? ⟨r, 0, none⟩ = some a ∧ ((((w.setCell ⟨r, 0, none⟩ a).setCell ⟨r, 1, none⟩ b).setCell ⟨r, 2, none⟩ c).setCell ⟨r, 3, none⟩ d).cell? ⟨r, 1, none⟩ = some b ∧
    ((((w.setCell ⟨r, 0, none⟩ a).setCell ⟨r, 1, none⟩ b).setCell ⟨r, 2, none⟩ c).setCell ⟨r, 3, none⟩ d).cell? ⟨r, 2, none⟩ = some c ∧ ((((w.setCell ⟨r, 0, none⟩ a).setCell ⟨r, 1, none⟩ b).setCell ⟨r, 2, none⟩ c).setCell ⟨r, 3, none⟩ d).cell? ⟨r, 3, none⟩ = some d :=
  ⟨skip_set (by omega) (skip_set (by omega) (skip_set (by omega) (h.unset.unset.unset.unset.got (by omega) a))), skip_set (by omega) (skip_set (by omega) (h.unset.unset.unset.got (by omega) b)), skip_set (by omega) (h.unset.unset.got (by omega) c), h.unset.got (by omega) d⟩
theorem boxed4_any {r : Nat} {a : Addr} {w : World} {v : Value} : Boxed4 r (w.setCell a v) ↔ Boxed4 r w := by
  by_cases hr : a.block = r
  · obtain ⟨b, o, sp⟩ := a
    simp only at hr
    subst hr
    cases sp with
    | none => exact boxed4_set
    | some q =>
      have e : (w.setCell ⟨b, o, some q⟩ v).heap[b]? = w.heap[b]? := by
        simp only [World.setCell, Array.getElem?_modify, if_true]
        cases w.heap[b]? with
        | none => rfl
        | some x => cases x <;> simp
      unfold Boxed4
      rw [e]
  · have e : (w.setCell a v).heap[r]? = w.heap[r]? := by
      simp only [World.setCell, Array.getElem?_modify]
      rw [if_neg hr]
    unfold Boxed4
    rw [e]
theorem stored_boxed {P : Program} {w : World} {a : Addr} {v : Value} {m : Mode} (hs : a.spot = none) (hi : a.off < 4) (h : Boxed4 a.block w) : stored P w a v m = .ok () (w.setCell a v) := by
  obtain ⟨b, o, sp⟩ := a
  simp only at hs hi h
  subst hs
  exact stored_boxed4 h hi
end Go.Proofs.Ytjpnobmgcgeofaa.Box
