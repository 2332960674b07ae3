/- Paths in memory: a row of steps, each with a row of places; what keeps them; a step more. -/
import Derived.Test.YtdeaodgcdacleaaDoorPthA
import Derived.Test.YtdeaodgcdacleaaDoorRowG
import Derived.Test.YtdeaodgcdacleaaDoorGate
import Derived.Laws.AppendOwn
import Derived.OwnWalk
import Derived.Test.YtdeaodgcdacleaaDoorRows
import Derived.ProofKit
namespace Go.Proofs.YtdeaodgcdacleaaDoor.PthB
open Go.ChangeShapes Go.WideShapes Go.ChangeAt Go.RowKit
open Lst Mem RowG GlyM PthA
def ptc (p : Pt) : List Value := [.int .i64 p.1, .int .i64 p.2]
theorem ptc_len (p : Pt) : (ptc p).length = 2 := rfl
/-- a path's steps in a row of the call's own -/
def Sgs (w : World) (B : Nat) (v : Value) (l : List Sg) : Prop :=
  ∃ xs : List Value, w.ownsRow B 89 2 v l.length xs ∧ ∀ i, i < l.length → ∃ q c, xs[i * 2]? = some (.int .i64 (l.getD i (0, [])).1) ∧ xs[i * 2 + 1]? = some (.slice (some ⟨q, 0, none⟩) (l.getD i (0, [])).2.length c) ∧ Row w B q 92 ((l.getD i (0, [])).2.flatMap ptc)
variable {w w' : World} {B : Nat} {v v' : Value} {l : List Sg}
theorem Sgs.nil_ (w : World) (B : Nat) : Sgs w B (.slice none 0 0) [] := ⟨[], World.ownsRow_nil _ _ _ _, fun i h => absurd h (by simp)⟩
/-- blocks of steps and of places stay as they are -/
theorem Sgs.same (h : Sgs w B v l) (hs : ∀ g, B ≤ g → (IsT w g 89 ∨ IsT w g 92) → w'.heap[g]? = w.heap[g]?) : Sgs w' B v l := by
  obtain ⟨xs, ho, hi⟩ := h
  refine ⟨xs, own_block ho (fun g hg => ?_), fun i hl => ?_⟩
  · have := own_isT ho hg
    exact hs g this.2 (.inl this.1)
  · obtain ⟨q, c, h1, h2, h3⟩ := hi i hl
    exact ⟨q, c, h1, h2, h3.block (hs q h3.2.2 (.inr h3.1))⟩
theorem Sgs.below (h : Sgs w B v l) (hb : Below w.heap.size w w') : Sgs w' B v l := h.same fun g _ h => hb.block g (by rcases h with h | h <;> exact h.lt)
theorem Sgs.grown {T : TypeId} {r : Option Nat} (h : Sgs w B v l) (hg : w.grownBy w' r) (hr : ∀ b, r = some b → IsT w b T) (h1 : T ≠ 89) (h2 : T ≠ 92) : Sgs w' B v l := h.same fun g _ h =>
  hg.block g (by rcases h with h | h <;> exact h.lt) (fun e => by
    have hb := hr g e.symm
    rcases h with h | h
    · exact (hb.ne h h1) rfl
    · exact (hb.ne h h2) rfl)
theorem Sgs.set_ {b i : Nat} {T : TypeId} {cs : List Value} {u : Value} (h : Sgs w B v l) (hb : Blk b T cs w) (h1 : T ≠ 89) (h2 : T ≠ 92) : Sgs (w.setCell ⟨b, i, none⟩ u) B v l := h.same fun g _ h => by
  refine Below.heap_setCell _ _ _ _ (fun e => ?_)
  rcases h with h | h
  · exact (IsT.ne ⟨_, hb⟩ h h1) e.symm
  · exact (IsT.ne ⟨_, hb⟩ h h2) e.symm
/-- a step more -/
theorem Sgs.push {q c : Nat} {s : Sg} {xs : List Value} (ho : w.ownsRow B 89 2 v l.length xs)
    (hi : ∀ i, i < l.length → ∃ q c, xs[i * 2]? = some (.int .i64 (l.getD i (0, [])).1) ∧ xs[i * 2 + 1]? = some (.slice (some ⟨q, 0, none⟩) (l.getD i (0, [])).2.length c) ∧ Row w B q 92 ((l.getD i (0, [])).2.flatMap ptc))
    (hd : Row w B q 92 (s.2.flatMap ptc)) (hg : w.grownBy w' v.ownBlock) (ho' : w'.ownsRow B 89 2 v' (l.length + 1) (xs ++ [.int .i64 s.1, .slice (some ⟨q, 0, none⟩) s.2.length c])) : Sgs w' B v' (l ++ [s]) := by
  have hxl : xs.length = l.length * 2 := ho.1
  have keep : ∀ g, IsT w g 92 → w'.heap[g]? = w.heap[g]? := fun g h => hg.block g h.lt (fun e => ((own_isT ho e.symm).1.ne h (by decide)) rfl)
  refine ⟨_, by rw [List.length_append]; exact ho', fun i hl => ?_⟩
  rw [List.length_append, List.length_singleton] at hl
  by_cases hk : i < l.length
  · obtain ⟨q', c', h1, h2, h3⟩ := hi i hk
    have hgd : (l ++ [s]).getD i (0, []) = l.getD i (0, []) := by
      rw [List.getD_eq_getElem?_getD, List.getD_eq_getElem?_getD, List.getElem?_append_left hk]
    rw [hgd]
    exact ⟨q', c', by rw [List.getElem?_append_left (by omega)]; exact h1, by rw [List.getElem?_append_left (by omega)]; exact h2, h3.block (keep q' h3.1)⟩
  · have hik : i = l.length := by omega
    subst hik
    have hgd : (l ++ [s]).getD l.length (0, []) = s := by simp [List.getD_eq_getElem?_getD]
    rw [hgd]
    exact ⟨q, c, by rw [List.getElem?_append_right (by omega), hxl]; simp, by rw [List.getElem?_append_right (by omega), hxl]; simp, hd.block (keep q hd.1)⟩
theorem grown_below {W Z : World} {r : Option Nat} (hb : Below w.heap.size w W) (hg : W.grownBy Z r) : w.grownBy Z r := by
  obtain ⟨a, b, c, d, e⟩ := hb
  obtain ⟨a', b', c', d', e'⟩ := hg
  exact ⟨a'.trans a, b'.trans b, c'.trans c, Nat.le_trans d d', fun i hi hne => (e' i (Nat.lt_of_lt_of_le hi d) hne).trans (e i hi)⟩
/-- a path of one step, whose block, and whose places' block, have just been made -/
theorem sgs_one {op : Int} {ps : List Pt} {pcs : Array Value} (hB : B ≤ w.heap.size) (hp : pcs.toList = ps.flatMap ptc) :
    Sgs ((w.alloc (.cells pcs 92)).alloc (.cells #[.int .i64 op, .slice (some ⟨w.heap.size, 0, none⟩) ps.length ps.length] 89)) B (.slice (some ⟨w.heap.size + 1, 0, none⟩) 1 1) [(op, ps)] := by
  have hb2 := bel_made (w.alloc (.cells pcs 92)) #[.int .i64 op, .slice (some ⟨w.heap.size, 0, none⟩) ps.length ps.length] 89
  have hP := (Blk.new_ w pcs 92).keep hb2
  have ho : ((w.alloc (.cells pcs 92)).alloc (.cells #[.int .i64 op, .slice (some ⟨w.heap.size, 0, none⟩) ps.length ps.length] 89)).ownsRow B 89 2 (.slice (some ⟨(w.alloc (.cells pcs 92)).heap.size, 0, none⟩) 1 1) 1 [.int .i64 op, .slice (some ⟨w.heap.size, 0, none⟩) ps.length ps.length] :=
    ⟨rfl, .inr ⟨_, 1, _, rfl, by rw [World.size_alloc]; omega, heap_alloc_new _ _, Nat.le_refl _, by unfold maxLen; omega, rfl, by simp⟩⟩
  rw [World.size_alloc] at ho
  refine ⟨_, ho, fun i hi => ?_⟩
  have : i = 0 := by simp at hi; exact hi
  subst this
  exact ⟨w.heap.size, ps.length, rfl, rfl, ⟨_, hP⟩, fun j u hu => by rw [Nat.zero_add]; exact hP.cell (by rw [hp]; exact hu), hB⟩
theorem seg_info : (Tryd.prog.info? 89).map (fun i => (i.zero, i.size, i.bytes)) = some (some (.agg #[.int .i64 0, .slice none 0 0]), 2, 32) := by kernel_rfl
/-- append of a step whose block, and whose places' block, have just been made -/
theorem app_seg {ops : Array Oper} {rest : List Oper} {o : Oper} {a : Act} {Q : Exit → Act → World → Prop} {s x : Operand} {op : Int} {ps : List Pt} {pcs : Array Value} (hgd : o.guard = none) (ho : o.op = .call { callee := .builtin .append, args := #[s, x], argTypes := #[44, 44] })
    (hs : a.eval s = v) (hx : a.eval x = .slice (some ⟨w.heap.size + 1, 0, none⟩) 1 1) (hS : Sgs w B v l) (hB : B ≤ w.heap.size) (hl : l.length ≤ 1000) (hp : pcs.toList = ps.flatMap ptc)
    (h : ∀ v' Z, Sgs Z B v' (l ++ [(op, ps)]) → w.grownBy Z v.ownBlock → (∀ b, v.ownBlock = some b → IsT w b 89 ∧ B ≤ b) → v'.oneCell' = true → wpList Tryd.prog ops Q rest (a.put o.dst v') Z) :
    wpList Tryd.prog ops Q (o :: rest) a ((w.alloc (.cells pcs 92)).alloc (.cells #[.int .i64 op, .slice (some ⟨w.heap.size, 0, none⟩) ps.length ps.length] 89)) := by
  obtain ⟨i2, hi2, iz2, iy2, ib2⟩ := info_parts seg_info
  have hb1 := bel_made w pcs 92
  have hb2 := bel_made (w.alloc (.cells pcs 92)) #[.int .i64 op, .slice (some ⟨w.heap.size, 0, none⟩) ps.length ps.length] 89
  have hP := (Blk.new_ w pcs 92).keep hb2
  have hN := Blk.new_ (w.alloc (.cells pcs 92)) #[.int .i64 op, .slice (some ⟨w.heap.size, 0, none⟩) ps.length ps.length] 89
  have hbb := hb1.trans (hb2.mono hb1.size)
  rw [World.size_alloc] at hN
  obtain ⟨W, hW⟩ : ∃ W, W = (w.alloc (.cells pcs 92)).alloc (.cells #[.int .i64 op, .slice (some ⟨w.heap.size, 0, none⟩) ps.length ps.length] 89) := ⟨_, rfl⟩
  rw [← hW] at hP hN hbb
  rw [← hW]
  have hsz : w.heap.size + 2 = W.heap.size := by rw [hW]; simp
  have hT : ∀ b, v.ownBlock = some b → IsT w b 89 ∧ B ≤ b := fun b hb => own_isT hS.choose_spec.1 hb
  have hS' := hS.below hbb
  obtain ⟨xs, ow, hi⟩ := hS'
  have hR : Row W B w.heap.size 92 (ps.flatMap ptc) := ⟨⟨_, hP⟩, fun j u hu => by rw [Nat.zero_add]; exact hP.cell (by rw [hp]; exact hu), hB⟩
  refine wpList_append_own W hgd s x _ ho B 89 i2 (.agg #[.int .i64 0, .slice none 0 0]) 2 32 Tryd.underlying44 hi2 iz2 iy2 ib2 rfl (by decide) v l.length xs hs ow ⟨w.heap.size + 1, 0, none⟩ 1 1 [.int .i64 op, .slice (some ⟨w.heap.size, 0, none⟩) ps.length ps.length] hx rfl (two_cells hN) (two_any _ _ _ _) (by unfold maxLen; omega) (by omega) (by omega) (fun v' Z own grow nil => h v' Z ?_ ?_ hT ?_)
  · exact Sgs.push (s := (op, ps)) ow hi hR grow own
  · exact grown_below hbb grow
  · rcases own.2 with ⟨rfl, _⟩ | ⟨_, _, _, rfl, _⟩ <;> rfl
end Go.Proofs.YtdeaodgcdacleaaDoor.PthB
