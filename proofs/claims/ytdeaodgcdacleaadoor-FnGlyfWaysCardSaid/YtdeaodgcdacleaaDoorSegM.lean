/- Paths in memory: rows of steps, each with a row of places; the least box of places. No function of the program in sight. -/
import Derived.Test.YtdeaodgcdacleaaDoorMem
import Derived.Test.YtdeaodgcdacleaaDoorNums
import Derived.Laws.Tables
import Derived.WalkKit
import Derived.OpenShut
import Derived.Deep.Quiet
namespace Go.Proofs.YtdeaodgcdacleaaDoor.SegM
open Go.ChangeShapes Go.WideShapes Go.RowKit
open Lst Mem

theorem flat_at {α β : Type} (f : α → List β) (k : Nat) (hf : ∀ x, (f x).length = k) (d : α) : ∀ (l : List α) (i r : Nat), i < l.length → r < k → (l.flatMap f)[k * i + r]? = (f (l.getD i d))[r]?
  | [], i, r, hi, _ => absurd hi (by simp)
  | x :: l, 0, r, _, hr => by
    rw [List.flatMap_cons, Nat.mul_zero, Nat.zero_add, List.getElem?_append_left (by rw [hf]; exact hr)]
    rfl
  | x :: l, i + 1, r, hi, hr => by
    have ih := flat_at f k hf d l i r (by simpa using hi) hr
    rw [List.flatMap_cons, show k * (i + 1) + r = k + (k * i + r) by rw [Nat.mul_succ]; omega, List.getElem?_append_right (by rw [hf]; omega), hf, Nat.add_sub_cancel_left, ih]
    rfl
theorem flat_len {α β : Type} (f : α → List β) (k : Nat) (hf : ∀ x, (f x).length = k) : ∀ l : List α, (l.flatMap f).length = k * l.length
  | [] => by simp
  | x :: l => by rw [List.flatMap_cons, List.length_append, hf, flat_len f k hf l, List.length_cons, Nat.mul_succ]; omega
theorem at_flat {α : Type} {w : World} {b : Nat} {f : α → List Value} {k : Nat} (hf : ∀ x, (f x).length = k) (d : α) {l : List α} (h : At w b 0 (l.flatMap f)) {i r : Nat} (hi : i < l.length) (hr : r < k) {u : Value} (hu : (f (l.getD i d))[r]? = some u) : w.cell? ⟨b, k * i + r, none⟩ = some u := by
  have := h (k * i + r) u (by rw [flat_at f k hf d l i r hi hr]; exact hu)
  rwa [Nat.zero_add] at this

abbrev Pt := Int × Int
/-- the cells of places -/
def ptc (k : IntKind) (p : Pt) : List Value := [.int k p.1, .int k p.2]
theorem ptc_len (k : IntKind) (p : Pt) : (ptc k p).length = 2 := rfl
/-- a step: what it is, and its places -/
abbrev Sg := Int × List Pt
def pt (s : Sg) (i : Nat) : Pt := s.2.getD i (0, 0)
/-- the cells of a step of the package: three places -/
def seg7 (s : Sg) : List Value := [.int .u32 s.1, .int .i32 (pt s 0).1, .int .i32 (pt s 0).2, .int .i32 (pt s 1).1, .int .i32 (pt s 1).2, .int .i32 (pt s 2).1, .int .i32 (pt s 2).2]
theorem seg7_len (s : Sg) : (seg7 s).length = 7 := rfl
/-- how many places a step has -/
def cnt (op : Int) : Nat := if op = 2 then 2 else if op = 3 then 3 else 1
def Sgk (s : Sg) : Prop := (0 ≤ s.1 ∧ s.1 ≤ 3) ∧ s.2.length = cnt s.1 ∧ ∀ p ∈ s.2, (-32768 ≤ p.1 ∧ p.1 ≤ 32767) ∧ (-32768 ≤ p.2 ∧ p.2 ≤ 32767)
/-- all places of steps -/
def pts (S : List Sg) : List Pt := S.flatMap (·.2)

def lx (Q : List Pt) : Int := Q.foldl (fun a p => min a p.1) 2147483647
def ly (Q : List Pt) : Int := Q.foldl (fun a p => min a p.2) 2147483647
def hx (Q : List Pt) : Int := Q.foldl (fun a p => max a p.1) (-2147483648)
def hy (Q : List Pt) : Int := Q.foldl (fun a p => max a p.2) (-2147483648)
theorem lx_snoc (Q : List Pt) (p : Pt) : lx (Q ++ [p]) = min (lx Q) p.1 := by simp [lx]
theorem ly_snoc (Q : List Pt) (p : Pt) : ly (Q ++ [p]) = min (ly Q) p.2 := by simp [ly]
theorem hx_snoc (Q : List Pt) (p : Pt) : hx (Q ++ [p]) = max (hx Q) p.1 := by simp [hx]
theorem hy_snoc (Q : List Pt) (p : Pt) : hy (Q ++ [p]) = max (hy Q) p.2 := by simp [hy]
theorem pts_take (S : List Sg) (k : Nat) (h : k < S.length) : pts (S.take (k + 1)) = pts (S.take k) ++ (S.getD k (0, [])).2 := by
  rw [List.take_succ_eq_append_getElem h, List.getD_eq_getElem?_getD, List.getElem?_eq_getElem h]
  unfold pts
  rw [List.flatMap_append, List.flatMap_cons, List.flatMap_nil, List.append_nil]
  rfl
theorem take_pt (l : List Pt) (k : Nat) (h : k < l.length) : l.take (k + 1) = l.take k ++ [l.getD k (0, 0)] := by
  rw [List.take_succ_eq_append_getElem h, List.getD_eq_getElem?_getD, List.getElem?_eq_getElem h]
  rfl
theorem getD_mem {α : Type} (l : List α) (k : Nat) (d : α) (h : k < l.length) : l.getD k d ∈ l := by
  rw [List.getD_eq_getElem?_getD, List.getElem?_eq_getElem h]
  exact List.getElem_mem _

theorem bel_draws {B : Nat} {w w' : World} (h : Below B w w') (n : Nat) : Below B w (w'.drewN n) := h.trans ⟨rfl, rfl, rfl, Nat.le_refl _, fun _ _ => rfl⟩
/-- block b holds the cells cs, none of them frozen -/
def Blk (b : Nat) (t : TypeId) (cs : List Value) (w : World) : Prop := w.heap[b]? = some (.cells cs.toArray t (0, 0))
theorem Blk.new_ (w : World) (cs : Array Value) (t : TypeId) : Blk w.heap.size t cs.toList (w.alloc (.cells cs t)) := by
  unfold Blk
  rw [heap_alloc_new]
theorem Blk.lt {b : Nat} {t : TypeId} {cs : List Value} {w : World} (h : Blk b t cs w) : b < w.heap.size := (Array.getElem?_eq_some_iff.1 h).1
theorem Blk.keep {b : Nat} {t : TypeId} {cs : List Value} {w w' : World} (h : Blk b t cs w) (hb : Below w.heap.size w w') : Blk b t cs w' := (hb.block b h.lt).trans h
theorem Blk.cell {b : Nat} {t : TypeId} {cs : List Value} {w : World} (h : Blk b t cs w) {i : Nat} {u : Value} (hu : cs[i]? = some u) : w.cell? ⟨b, i, none⟩ = some u := by
  rw [cell_of_row w b i cs.toArray t (0, 0) h]
  simpa using hu
theorem Blk.frozen {b : Nat} {t : TypeId} {cs : List Value} {w : World} (h : Blk b t cs w) (i : Nat) : w.frozen? ⟨b, i, none⟩ = false := by simp [World.frozen?, show w.heap[b]? = _ from h]
theorem Blk.set_ {b : Nat} {t : TypeId} {cs : List Value} {w : World} (h : Blk b t cs w) (i : Nat) (v : Value) : Blk b t (cs.set i v) (w.setCell ⟨b, i, none⟩ v) := by
  simp [Blk, World.setCell, Array.getElem?_modify, show w.heap[b]? = _ from h]
theorem Blk.other {b c i : Nat} {t : TypeId} {cs : List Value} {w : World} {v : Value} (h : Blk b t cs w) (hc : b ≠ c) : Blk b t cs (w.setCell ⟨c, i, none⟩ v) := by
  unfold Blk
  rw [Below.heap_setCell _ _ _ _ (by exact hc)]
  exact h
end Go.Proofs.YtdeaodgcdacleaaDoor.SegM
