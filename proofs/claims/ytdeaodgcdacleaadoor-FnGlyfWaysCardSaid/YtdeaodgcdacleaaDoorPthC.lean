/- Paths in memory: a path behind a path; lengths and bounds of the reference's paths. -/
import Derived.Test.YtdeaodgcdacleaaDoorPthB
import Derived.Maps.AppendAt
namespace Go.Proofs.YtdeaodgcdacleaaDoor.PthC
open Go.ChangeShapes Go.WideShapes Go.ChangeAt Go.RowKit
open Lst Mem RowG GlyM PthA PthB
set_option linter.unusedVariables false
set_option linter.unusedSimpArgs false
variable {w w' : World} {B : Nat} {v v' : Value} {l : List Sg}
theorem sgs_mono {B' : Nat} (h : Sgs w B v l) (hB : B' ≤ B) : Sgs w B' v l := by
  obtain ⟨xs, ho, hi⟩ := h
  exact ⟨xs, own_base' ho hB, fun i hl => by obtain ⟨q, c, h1, h2, h3, h4, h5⟩ := hi i hl; exact ⟨q, c, h1, h2, h3, h4, by omega⟩⟩
/-- an empty row of steps that has just been made -/
theorem sgs_empty (hB : B ≤ w.heap.size) : Sgs (w.alloc (.cells #[] 89)) B (.slice (some ⟨w.heap.size, 0, none⟩) 0 0) [] :=
  ⟨[], World.ownsRow_made (base := B) (e := 89) (size := 2) w #[] 0 hB (Nat.zero_le _) (by simp), fun i h => absurd h (by simp)⟩
theorem sgs_one' (h : Sgs w B v l) : v.oneCell' = true := by
  obtain ⟨xs, ho, _⟩ := h
  rcases ho.2 with ⟨rfl, _⟩ | ⟨_, _, _, rfl, _⟩ <;> rfl
/-- a path behind a path -/
theorem Sgs.append {l2 : List Sg} {xs xs2 : List Value} (ho : w.ownsRow B 89 2 v l.length xs)
    (hi : ∀ i, i < l.length → ∃ q c, xs[i * 2]? = some (.int .i64 (l.getD i (0, [])).1) ∧ xs[i * 2 + 1]? = some (.slice (some ⟨q, 0, none⟩) (l.getD i (0, [])).2.length c) ∧ Row w B q 92 ((l.getD i (0, [])).2.flatMap ptc))
    (hl2 : xs2.length = l2.length * 2)
    (hi2 : ∀ i, i < l2.length → ∃ q c, xs2[i * 2]? = some (.int .i64 (l2.getD i (0, [])).1) ∧ xs2[i * 2 + 1]? = some (.slice (some ⟨q, 0, none⟩) (l2.getD i (0, [])).2.length c) ∧ Row w B q 92 ((l2.getD i (0, [])).2.flatMap ptc))
    (hg : w.grownBy w' v.ownBlock) (ho' : w'.ownsRow B 89 2 v' (l.length + l2.length) (xs ++ xs2)) : Sgs w' B v' (l ++ l2) := by
  have hxl : xs.length = l.length * 2 := ho.1
  have keep : ∀ g, IsT w g 92 → w'.heap[g]? = w.heap[g]? := fun g h => hg.block g h.lt (fun e => ((own_isT ho e.symm).1.ne h (by decide)) rfl)
  refine ⟨_, by rw [List.length_append]; exact ho', fun i hl => ?_⟩
  rw [List.length_append] at hl
  by_cases hk : i < l.length
  · obtain ⟨q', c', h1, h2, h3⟩ := hi i hk
    have hgd : (l ++ l2).getD i (0, []) = l.getD i (0, []) := by
      rw [List.getD_eq_getElem?_getD, List.getD_eq_getElem?_getD, List.getElem?_append_left hk]
    rw [hgd]
    exact ⟨q', c', by rw [List.getElem?_append_left (by omega)]; exact h1, by rw [List.getElem?_append_left (by omega)]; exact h2, h3.block (keep q' h3.1)⟩
  · obtain ⟨j, rfl⟩ : ∃ j, i = l.length + j := ⟨i - l.length, by omega⟩
    obtain ⟨q', c', h1, h2, h3⟩ := hi2 j (by omega)
    have hgd : (l ++ l2).getD (l.length + j) (0, []) = l2.getD j (0, []) := by
      rw [List.getD_eq_getElem?_getD, List.getD_eq_getElem?_getD, List.getElem?_append_right (by omega), Nat.add_sub_cancel_left]
    rw [hgd]
    exact ⟨q', c', by rw [List.getElem?_append_right (by omega), hxl, show (l.length + j) * 2 - l.length * 2 = j * 2 by omega]; exact h1, by rw [List.getElem?_append_right (by omega), hxl, show (l.length + j) * 2 + 1 - l.length * 2 = j * 2 + 1 by omega]; exact h2, h3.block (keep q' h3.1)⟩
theorem sgs_ones {xs : List Value} (hx : xs.length = l.length * 2) (hi : ∀ i, i < l.length → ∃ q c, xs[i * 2]? = some (.int .i64 (l.getD i (0, [])).1) ∧ xs[i * 2 + 1]? = some (.slice (some ⟨q, 0, none⟩) (l.getD i (0, [])).2.length c) ∧ Row w B q 92 ((l.getD i (0, [])).2.flatMap ptc)) : ∀ u ∈ xs, u.oneCell' = true := fun u hu => by
  obtain ⟨i, hil, rfl⟩ := List.getElem_of_mem hu
  obtain ⟨q, c, h1, h2, _⟩ := hi (i / 2) (by omega)
  rcases Nat.mod_two_eq_zero_or_one i with h | h
  · rw [show i / 2 * 2 = i by omega, List.getElem?_eq_getElem hil] at h1
    rw [Option.some.inj h1]; rfl
  · rw [show i / 2 * 2 + 1 = i by omega, List.getElem?_eq_getElem hil] at h2
    rw [Option.some.inj h2]; rfl
/-- append of a path onto a path -/
theorem app_path {ops : Array Oper} {rest : List Oper} {o : Oper} {a : Act} {Q : Exit → Act → World → Prop} {s x : Operand} {v2 : Value} {l2 : List Sg} (hgd : o.guard = none) (ho : o.op = .call { callee := .builtin .append, args := #[s, x], argTypes := #[44, 44] })
    (hs : a.eval s = v) (hx : a.eval x = v2) (hS : Sgs w B v l) (hS2 : Sgs w B v2 l2) (h0 : 0 < l2.length) (hB : B ≤ w.heap.size) (hl : l.length ≤ 1000 ∧ l2.length ≤ 1000)
    (h : ∀ v' Z, Sgs Z B v' (l ++ l2) → w.grownBy Z v.ownBlock → (∀ b, v.ownBlock = some b → IsT w b 89 ∧ B ≤ b) → wpList Tryd.prog ops Q rest (a.put o.dst v') Z) : wpList Tryd.prog ops Q (o :: rest) a w := by
  obtain ⟨i2, hi2, iz2, iy2, ib2⟩ := info_parts seg_info
  obtain ⟨xs, ow, hi⟩ := hS
  obtain ⟨xs2, ow2, hj⟩ := hS2
  obtain ⟨g2, c2, hv2, hAt, _, _, _⟩ := open_row ow2 (fun e => by
    rcases ow2.2 with ⟨_, h⟩ | ⟨_, _, _, h, _⟩
    · omega
    · rw [e] at h; cases h)
  subst hv2
  refine wpList_append_own_at w hgd s x _ ho B 89 i2 (.agg #[.int .i64 0, .slice none 0 0]) 2 32 Tryd.underlying44 hi2 iz2 iy2 ib2 rfl (by decide) v l.length xs hs ow ⟨g2, 0, none⟩ l2.length c2 xs2 hx ow2.1 (fun j u hu => by rw [Addr.add_lit]; exact hAt j u hu) (sgs_ones ow2.1 hj) (by unfold maxLen; omega) (by omega) hB (fun v' Z own grow nil _ => h v' Z ?_ grow (fun b hb => own_isT ow hb))
  exact Sgs.append ow hi ow2.1 hj grow own
theorem pt_info : (Tryd.prog.info? 92).map (fun i => (i.zero, i.size, i.bytes)) = some (some (.agg #[.int .i64 0, .int .i64 0]), 2, 16) := by kernel_rfl
/-- append of a place whose block has just been made -/
theorem app_pt {ops : Array Oper} {rest : List Oper} {o : Oper} {a : Act} {Q : Exit → Act → World → Prop} {s x : Operand} {va : Value} {m : Nat} {xs : List Value} {px py : Int} (hgd : o.guard = none) (ho : o.op = .call { callee := .builtin .append, args := #[s, x], argTypes := #[87, 87] })
    (hs : a.eval s = va) (hx : a.eval x = .slice (some ⟨w.heap.size, 0, none⟩) 1 1) (own : w.ownsRow B 92 2 va m xs) (hB : B ≤ w.heap.size) (hm : m ≤ 100)
    (h : ∀ gv cv Z, Z.ownsRow B 92 2 (.slice (some ⟨gv, 0, none⟩) (m + 1) cv) (m + 1) (xs ++ [.int .i64 px, .int .i64 py]) → w.grownBy Z va.ownBlock → (∀ b, va.ownBlock = some b → IsT w b 92 ∧ B ≤ b) → wpList Tryd.prog ops Q rest (a.put o.dst (.slice (some ⟨gv, 0, none⟩) (m + 1) cv)) Z) :
    wpList Tryd.prog ops Q (o :: rest) a (w.alloc (.cells #[.int .i64 px, .int .i64 py] 92)) := by
  obtain ⟨i2, hi2, iz2, iy2, ib2⟩ := info_parts pt_info
  have hb := bel_made w #[.int .i64 px, .int .i64 py] 92
  have hN := Blk.new_ w #[.int .i64 px, .int .i64 py] 92
  obtain ⟨W, hW⟩ : ∃ W, W = w.alloc (.cells #[.int .i64 px, .int .i64 py] 92) := ⟨_, rfl⟩
  rw [← hW] at hb hN
  rw [← hW]
  refine wpList_append_own_at W hgd s x _ ho B 92 i2 (.agg #[.int .i64 0, .int .i64 0]) 2 16 Tryd.underlying87 hi2 iz2 iy2 ib2 rfl (by decide) va m xs hs (own_keep own hb) ⟨w.heap.size, 0, none⟩ 1 1 [.int .i64 px, .int .i64 py] hx rfl (two_cells hN) (two_ints _ _) (by unfold maxLen; omega) (by omega) (Nat.le_trans hB hb.size) (fun v' Z own' grow nil _ => ?_)
  obtain ⟨gv, cv, hv, _⟩ := open_row own' (fun h => by have := (nil.1 h).2; cases this)
  subst hv
  exact h gv cv Z own' (grown_below hb grow) (fun b hb => own_isT own hb)
/-- append of a step whose block has just been made, its places in a row -/
theorem app_segR {ops : Array Oper} {rest : List Oper} {o : Oper} {a : Act} {Q : Exit → Act → World → Prop} {s x : Operand} {op : Int} {ps : List Pt} {q c n : Nat} (hn : n = ps.length) (hgd : o.guard = none) (ho : o.op = .call { callee := .builtin .append, args := #[s, x], argTypes := #[44, 44] })
    (hs : a.eval s = v) (hx : a.eval x = .slice (some ⟨w.heap.size, 0, none⟩) 1 1) (hS : Sgs w B v l) (hR : Row w B q 92 (ps.flatMap ptc)) (hB : B ≤ w.heap.size) (hl : l.length ≤ 1000)
    (h : ∀ v' Z, Sgs Z B v' (l ++ [(op, ps)]) → w.grownBy Z v.ownBlock → (∀ b, v.ownBlock = some b → IsT w b 89 ∧ B ≤ b) → (∀ g, v'.ownBlock = some g → v.ownBlock = some g ∨ w.heap.size ≤ g) → wpList Tryd.prog ops Q rest (a.put o.dst v') Z) :
    wpList Tryd.prog ops Q (o :: rest) a (w.alloc (.cells #[.int .i64 op, .slice (some ⟨q, 0, none⟩) n c] 89)) := by
  subst hn
  obtain ⟨i2, hi2, iz2, iy2, ib2⟩ := info_parts seg_info
  have hb := bel_made w #[.int .i64 op, .slice (some ⟨q, 0, none⟩) ps.length c] 89
  have hN := Blk.new_ w #[.int .i64 op, .slice (some ⟨q, 0, none⟩) ps.length c] 89
  obtain ⟨W, hW⟩ : ∃ W, W = w.alloc (.cells #[.int .i64 op, .slice (some ⟨q, 0, none⟩) ps.length c] 89) := ⟨_, rfl⟩
  rw [← hW] at hb hN
  rw [← hW]
  have hT : ∀ b, v.ownBlock = some b → IsT w b 89 ∧ B ≤ b := fun b hb => own_isT hS.choose_spec.1 hb
  obtain ⟨xs, ow, hi⟩ := hS.below hb
  have hR' := hR.block (hb.block q hR.1.lt)
  refine wpList_append_own_at W hgd s x _ ho B 89 i2 (.agg #[.int .i64 0, .slice none 0 0]) 2 32 Tryd.underlying44 hi2 iz2 iy2 ib2 rfl (by decide) v l.length xs hs ow ⟨w.heap.size, 0, none⟩ 1 1 [.int .i64 op, .slice (some ⟨q, 0, none⟩) ps.length c] hx rfl (two_cells hN) (two_any _ _ _ _) (by unfold maxLen; omega) (by omega) (Nat.le_trans hB hb.size) (fun v' Z own grow nil at' => h v' Z ?_ (grown_below hb grow) hT (fun g hg => ?_))
  · exact Sgs.push (s := (op, ps)) ow hi hR' grow own
  · rcases at' with e | e
    · rw [e] at hg; exact .inl hg
    · rw [e] at hg; have := Option.some.inj hg; exact .inr (by have := hb.size; omega)
/-- a path beside a row of steps that grows -/
theorem sgs_far {B' : Nat} {v2 : Value} {l2 : List Sg} (h : Sgs w B' v2 l2) (hg : w.grownBy w' v.ownBlock) (hT : ∀ b, v.ownBlock = some b → IsT w b 89 ∧ B ≤ b) (hne : ∀ g, v2.ownBlock = some g → v.ownBlock ≠ some g) : Sgs w' B' v2 l2 := by
  obtain ⟨xs, ho, hi⟩ := h
  refine ⟨xs, own_block ho (fun g hg' => hg.block g (own_isT ho hg').1.lt (fun e => hne g hg' e.symm)), fun i hl => ?_⟩
  obtain ⟨q, c, h1, h2, h3⟩ := hi i hl
  exact ⟨q, c, h1, h2, h3.block (hg.block q h3.1.lt (fun e => ((hT q e.symm).1.ne h3.1 (by decide)) rfl))⟩
/-- where a path's steps can be read -/
theorem sgs_at (h : Sgs w B v l) : ∃ A c, v = .slice A l.length c ∧ ∀ i, i < l.length → ∃ g q c', A = some ⟨g, 0, none⟩ ∧ w.cell? ⟨g, i * 2, none⟩ = some (.int .i64 (l.getD i (0, [])).1) ∧ w.cell? ⟨g, i * 2 + 1, none⟩ = some (.slice (some ⟨q, 0, none⟩) (l.getD i (0, [])).2.length c') ∧ Row w B q 92 ((l.getD i (0, [])).2.flatMap ptc) := by
  obtain ⟨xs, ho, hi⟩ := h
  by_cases hn : v = .slice none 0 0
  · have h0 : l.length = 0 := by
      rcases ho.2 with ⟨_, h⟩ | ⟨_, _, _, h, _⟩
      · exact h
      · rw [hn] at h; cases h
    exact ⟨none, 0, by rw [hn, h0], fun i h => by omega⟩
  · obtain ⟨g, c, hv, hA, _, _, _⟩ := open_row ho hn
    refine ⟨_, c, hv, fun i hl => ?_⟩
    obtain ⟨q, c', h1, h2, h3⟩ := hi i hl
    have a1 := hA _ _ h1
    have a2 := hA _ _ h2
    rw [Nat.zero_add] at a1 a2
    exact ⟨g, q, c', rfl, a1, a2, h3⟩
theorem mulb {x s : Int} (hx : -4096 ≤ x ∧ x ≤ 4096) (hs : -8 ≤ s ∧ s ≤ 7) : -32768 ≤ x * s ∧ x * s ≤ 32768 := by
  obtain ⟨t, ht, h0, h15⟩ : ∃ t : Int, s = t - 8 ∧ 0 ≤ t ∧ t ≤ 15 := ⟨s + 8, by omega, by omega, by omega⟩
  have h : s = -8 ∨ s = -7 ∨ s = -6 ∨ s = -5 ∨ s = -4 ∨ s = -3 ∨ s = -2 ∨ s = -1 ∨ s = 0 ∨ s = 1 ∨ s = 2 ∨ s = 3 ∨ s = 4 ∨ s = 5 ∨ s = 6 ∨ s = 7 := by omega
  rcases h with rfl | rfl | rfl | rfl | rfl | rfl | rfl | rfl | rfl | rfl | rfl | rfl | rfl | rfl | rfl | rfl <;> omega
theorem tdiv4 {x : Int} (h : -32768 ≤ x ∧ x ≤ 32768) : -8192 ≤ x.tdiv 4 ∧ x.tdiv 4 ≤ 8192 := by
  rcases Int.le_total 0 x with h0 | h0
  · rw [Int.tdiv_eq_ediv_of_nonneg h0]; omega
  · rw [show x = -(-x) by omega, Int.neg_tdiv, Int.tdiv_eq_ediv_of_nonneg (show 0 ≤ -x by omega)]; omega
/-- the path of parts -/
def pathR (Gs : List Gl) (Rs : List Ref) : List Sg := Rs.flatMap fun (r : Ref) => (pathC (Gs.getD r.1.toNat ([], [])).1).map (PthA.trans r)
theorem pathR_take (Gs : List Gl) (Rs : List Ref) (k : Nat) (h : k < Rs.length) : pathR Gs (Rs.take (k + 1)) = pathR Gs (Rs.take k) ++ (pathC (Gs.getD (Rs.getD k (0, 0, 0, 0, 0)).1.toNat ([], [])).1).map (PthA.trans (Rs.getD k (0, 0, 0, 0, 0))) := by
  unfold pathR
  rw [List.take_succ_eq_append_getElem h, List.flatMap_append, List.getD_eq_getElem?_getD (l := Rs), List.getElem?_eq_getElem h]
  simp
theorem run_len : ∀ (ds : List Dot) (a : Option Pt), (run a ds).length ≤ ds.length
  | [], a => by cases a <;> simp [run]
  | d :: ds, none => by
    have h1 := run_len ds none
    have h2 := run_len ds (some (pt d))
    simp only [run]
    split <;> simp <;> omega
  | d :: ds, some a => by
    have h1 := run_len ds none
    have h2 := run_len ds (some (pt d))
    simp only [run]
    split <;> simp <;> omega
theorem pathOf_len (c : List Dot) : (pathOf c).length ≤ c.length + 2 := by
  match c with
  | [] => simp [pathOf]
  | d0 :: ds =>
    by_cases h : d0.2.2 = true
    · have := run_len (ds ++ [d0]) none
      simp only [pathOf, if_pos h, List.length_cons, List.length_append, List.length_nil] at this ⊢
      omega
    · match ds with
      | [] => simp [pathOf, h]
      | d1 :: es =>
        by_cases h1 : d1.2.2 = true
        · have := run_len (es ++ [d0, d1]) none
          simp only [pathOf, if_neg h, if_pos h1, List.length_cons, List.length_append, List.length_nil] at this ⊢
          omega
        · have := run_len (d1 :: es ++ [d0, on (mid (pt d0) (pt d1))]) none
          simp only [pathOf, if_neg h, if_neg h1, List.length_cons, List.length_append, List.length_nil] at this ⊢
          omega
theorem pathOf_pos {c : List Dot} (h0 : 0 < c.length) (h1 : c.length = 1 → (c.getD 0 (0, 0, false)).2.2 = true) : 0 < (pathOf c).length := by
  match c, h0, h1 with
  | d0 :: ds, _, h1 =>
    by_cases h : d0.2.2 = true
    · simp [pathOf, h]
    · match ds, h1 with
      | [], h1 => exact absurd (h1 rfl) h
      | d1 :: es, _ => by_cases h2 : d1.2.2 = true <;> simp [pathOf, h, h2]
theorem pathC_len (cs : List (List Dot)) (h : ∀ c ∈ cs, ConOk c) : (pathC cs).length ≤ 8 * cs.length := by
  induction cs with
  | nil => simp [pathC]
  | cons c cs ih =>
    have h1 := ih (fun d hd => h d (by simp [hd]))
    have h2 := pathOf_len c
    have h3 := (h c (by simp)).2.1
    simp only [pathC, List.flatMap_cons, List.length_append, List.length_cons] at h1 ⊢
    omega
theorem pathC_take (cs : List (List Dot)) (k : Nat) (h : k < cs.length) : pathC (cs.take (k + 1)) = pathC (cs.take k) ++ pathOf (cs.getD k []) := by
  unfold pathC
  rw [List.take_succ_eq_append_getElem h, List.flatMap_append, List.getD_eq_getElem?_getD, List.getElem?_eq_getElem h]
  simp
/-- places within 4096, multiples of k -/
def POk (k : Int) (p : Pt) : Prop := ((-4096 ≤ p.1 ∧ p.1 ≤ 4096) ∧ k ∣ p.1) ∧ ((-4096 ≤ p.2 ∧ p.2 ≤ 4096) ∧ k ∣ p.2)
def SegOk (s : Sg) : Prop := ((s.1 = 0 ∧ s.2.length = 1) ∨ (s.1 = 1 ∧ s.2.length = 1) ∨ (s.1 = 2 ∧ s.2.length = 2)) ∧ ∀ p ∈ s.2, POk 4 p
theorem POk.four {p : Pt} (h : POk 8 p) : POk 4 p := ⟨⟨h.1.1, by have := h.1.2; omega⟩, h.2.1, by have := h.2.2; omega⟩
theorem half4 {x y : Int} (hx : (-4096 ≤ x ∧ x ≤ 4096) ∧ 8 ∣ x) (hy : (-4096 ≤ y ∧ y ≤ 4096) ∧ 8 ∣ y) : (-4096 ≤ (x + y).tdiv 2 ∧ (x + y).tdiv 2 ≤ 4096) ∧ 4 ∣ (x + y).tdiv 2 := by
  obtain ⟨⟨a, b⟩, k, hk⟩ := hx
  obtain ⟨⟨c, d⟩, m, hm⟩ := hy
  have h : (x + y).tdiv 2 = 4 * (k + m) := by
    rw [show x + y = 2 * (4 * (k + m)) by omega]
    exact Int.mul_tdiv_cancel_left _ (by decide)
  rw [h]
  exact ⟨by omega, Int.dvd_mul_right _ _⟩
theorem POk.mid {p q : Pt} (h : POk 8 p) (h' : POk 8 q) : POk 4 (mid p q) := ⟨half4 h.1 h'.1, half4 h.2 h'.2⟩
theorem one_ok {k : Int} {p : Pt} (hk : k = 0 ∨ k = 1) (h : POk 4 p) : SegOk (k, [p]) := ⟨by rcases hk with rfl | rfl <;> simp, fun q hq => by simp at hq; subst hq; exact h⟩
theorem two_ok {p q : Pt} (h : POk 4 p) (h' : POk 4 q) : SegOk (2, [p, q]) := ⟨by simp, fun r hr => by simp at hr; rcases hr with rfl | rfl <;> assumption⟩
theorem run_ok : ∀ (ds : List Dot) (o : Option Pt), (∀ d ∈ ds, POk 4 (pt d) ∧ (¬ d.2.2 = true → POk 8 (pt d))) → (∀ a, o = some a → POk 8 a) → ∀ s ∈ run o ds, SegOk s
  | [], o, _, _ => by cases o <;> simp [run]
  | d :: ds, none, h, ho => by
    have hd := h d (by simp)
    have ht := fun e he => h e (List.mem_cons_of_mem _ he)
    simp only [run]
    split
    · intro s hs
      rcases List.mem_cons.1 hs with rfl | hs
      · exact one_ok (.inr rfl) hd.1
      · exact run_ok ds none ht (fun a h => by cases h) s hs
    · rename_i hn
      exact run_ok ds _ ht (fun a h => by injection h with h; subst h; exact hd.2 hn)
  | d :: ds, some a, h, ho => by
    have hd := h d (by simp)
    have ha := ho a rfl
    have ht := fun e he => h e (List.mem_cons_of_mem _ he)
    simp only [run]
    split
    · intro s hs
      rcases List.mem_cons.1 hs with rfl | hs
      · exact two_ok ha.four hd.1
      · exact run_ok ds none ht (fun a h => by cases h) s hs
    · rename_i hn
      intro s hs
      rcases List.mem_cons.1 hs with rfl | hs
      · exact two_ok ha.four (ha.mid (hd.2 hn))
      · exact run_ok ds _ ht (fun b h => by injection h with h; subst h; exact hd.2 hn) s hs
theorem dot_ok {d : Dot} (h : DotOk d) : POk 8 (pt d) := h
theorem pathOf_ok {c : List Dot} (h : ∀ d ∈ c, DotOk d) : ∀ s ∈ pathOf c, SegOk s := by
  have h8 : ∀ d ∈ c, POk 4 (pt d) ∧ (¬ d.2.2 = true → POk 8 (pt d)) := fun d hd => ⟨(dot_ok (h d hd)).four, fun _ => dot_ok (h d hd)⟩
  match c with
  | [] => simp [pathOf]
  | d0 :: ds =>
    have hd0 := h8 d0 (by simp)
    by_cases hn : d0.2.2 = true
    · simp only [pathOf, if_pos hn]
      intro s hs
      rcases List.mem_cons.1 hs with rfl | hs
      · exact one_ok (.inl rfl) hd0.1
      · exact run_ok _ none (fun d hd => h8 d (by simp at hd ⊢; rcases hd with hd | hd <;> simp [hd])) (fun a h => by cases h) s hs
    · match ds with
      | [] => simp [pathOf, hn]
      | d1 :: es =>
        have hd1 := h8 d1 (by simp)
        by_cases h1 : d1.2.2 = true
        · simp only [pathOf, if_neg hn, if_pos h1]
          intro s hs
          rcases List.mem_cons.1 hs with rfl | hs
          · exact one_ok (.inl rfl) hd1.1
          · exact run_ok _ none (fun d hd => h8 d (by simp at hd ⊢; rcases hd with hd | hd | hd <;> simp [hd])) (fun a h => by cases h) s hs
        · simp only [pathOf, if_neg hn, if_neg h1]
          have hm := POk.mid (hd0.2 hn) (hd1.2 h1)
          intro s hs
          rcases List.mem_cons.1 hs with rfl | hs
          · exact one_ok (.inl rfl) hm
          · refine run_ok _ none (fun d hd => ?_) (fun a h => by cases h) s hs
            simp only [List.cons_append, List.mem_cons, List.mem_append, List.not_mem_nil, or_false] at hd
            rcases hd with hd | hd | hd | hd
            · exact h8 d (by simp [hd])
            · exact h8 d (by simp [hd])
            · exact h8 d (by simp [hd])
            · subst hd; exact ⟨hm, fun h => absurd rfl h⟩
theorem pathC_ok {cs : List (List Dot)} (h : ∀ c ∈ cs, ConOk c) : ∀ s ∈ pathC cs, SegOk s := fun s hs => by
  obtain ⟨c, hc, hs⟩ := List.mem_flatMap.1 hs
  exact pathOf_ok (h c hc).2.2.1 s hs
end Go.Proofs.YtdeaodgcdacleaaDoor.PthC
