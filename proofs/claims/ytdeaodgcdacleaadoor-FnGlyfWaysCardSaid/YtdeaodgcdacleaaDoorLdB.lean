/- Steps of a path as the package keeps them: rows of seven cells. What a glyph's head says. -/
import Derived.Test.YtdeaodgcdacleaaDoorLdA
import Derived.Test.YtdeaodgcdacleaaDoorItF
import Derived.Laws.AppendOwn
import Derived.OwnWalk
namespace Go.Proofs.YtdeaodgcdacleaaDoor.LdB
open Go.ChangeShapes Go.WideShapes Go.ChangeAt Go.RowKit
open Lst Mem RowG SpecB GlyM IdxB DatE ItA ItB ItC ItF PthA PthC LdA
set_option linter.unusedSimpArgs false
set_option linter.unusedVariables false
/-- a step of the package: its kind, three places -/
abbrev Rec := Int × Pt × Pt × Pt
def rc (r : Rec) : List Value := [.int .u32 r.1, .int .i32 r.2.1.1, .int .i32 r.2.1.2, .int .i32 r.2.2.1.1, .int .i32 r.2.2.1.2, .int .i32 r.2.2.2.1, .int .i32 r.2.2.2.2]
theorem rc_len (r : Rec) : (rc r).length = 7 := rfl
def recOf (s : Sg) : Rec := (s.1, s.2.getD 0 (0, 0), s.2.getD 1 (0, 0), (0, 0))
abbrev ST : TypeId := 145
abbrev BT : TypeId := 136
theorem seg_is {t : It} {s : Sg} (h : SegIs t s) : (t.op, t.q0, t.q1, t.q2) = recOf s := by
  obtain ⟨a, b, c, d⟩ := h
  rw [a, b, c, d]; rfl
/-- steps in a row of the call's own -/
def Segs (w : World) (B : Nat) (v : Value) (L : List Rec) : Prop := w.ownsRow B ST 7 v L.length (L.flatMap rc)
theorem st_info : (Tryd.prog.info? ST).map (fun i => (i.zero, i.size, i.bytes)) = some (some (.agg #[.int .u32 0, .int .i32 0, .int .i32 0, .int .i32 0, .int .i32 0, .int .i32 0, .int .i32 0]), 7, 28) := by kernel_rfl
theorem rc_ones (r : Rec) : ∀ u ∈ rc r, u.oneCell' = true := fun u hu => by simp [rc] at hu; rcases hu with rfl | rfl | rfl | rfl | rfl | rfl | rfl <;> rfl
theorem Segs.one {w : World} {B : Nat} {v : Value} {L : List Rec} (h : Segs w B v L) : v.oneCell' = true := by
  rcases h.2 with ⟨rfl, _⟩ | ⟨_, _, _, rfl, _⟩ <;> rfl
theorem Segs.grown {w w' : World} {B b : Nat} {T : TypeId} {cs : List Value} {v : Value} {L : List Rec} (h : Segs w B v L) (hb : Blk b T cs w) (hT : T ≠ ST) (hg : w.grownBy w' (some b)) : Segs w' B v L :=
  GlyM.own_block h (fun g hg' => by
    have h1 := (own_isT h hg').1
    exact hg.block g h1.lt (fun e => (h1.ne ⟨_, hb⟩ (Ne.symm hT)) (Option.some.inj e)))
theorem Segs.below {w w' : World} {B : Nat} {v : Value} {L : List Rec} (h : Segs w B v L) (hb : Below w.heap.size w w') : Segs w' B v L := own_keep h hb
/-- append of a step whose block has just been made, in a region that draws -/
theorem step_seg {ops : Array Oper} {o : Oper} {a : Act} {w : World} {K : Act → World → Prop} {Q : Exit → Act → World → Prop} {E : Prop} (hgd : o.guard = none) (s x : Operand)
    (ho : o.op = .call { callee := .builtin .append, args := #[s, x], argTypes := #[76, 76] }) {B h : Nat} {v : Value} {L : List Rec} {r : Rec}
    (hs : a.eval s = v) (hS : Segs w B v L) (hx : a.eval x = .slice (some ⟨h, 0, none⟩) 1 1) (hN : Blk h ST (rc r) w) (hl : L.length ≤ 1000) (hB : B ≤ w.heap.size) {M : Nat} (hM : L.length + 1 = M)
    (hK : ∀ gv cv w', Segs w' B (.slice (some ⟨gv, 0, none⟩) M cv) (L ++ [r]) → w.grownBy w' v.ownBlock → (∀ b, v.ownBlock = some b → IsT w b ST ∧ B ≤ b) → K (a.put o.dst (.slice (some ⟨gv, 0, none⟩) M cv)) w') :
    if Region.wanted o (yielded ops a.tmps) = true then Oper.wp Tryd.prog o a w K Q else E := by
  obtain ⟨i2, hi2, iz2, iy2, ib2⟩ := info_parts st_info
  refine step_app2 hgd s x _ ho B ST i2 _ 7 28 Tryd.underlying76 hi2 iz2 iy2 ib2 rfl (by decide) v L.length _ hs hS ⟨h, 0, none⟩ 1 1 (rc r) hx rfl (fun j u hu => by rw [Addr.add_lit, Nat.zero_add]; exact hN.cell hu) (rc_ones r) (by unfold maxLen; omega) (by omega) hB (fun v' w' own grow nil _ => ?_)
  obtain ⟨gv, cv, hv, _⟩ := open_row own (fun h => by have := (nil.1 h).2; cases this)
  subst hv
  subst hM
  refine hK gv cv w' ?_ grow (fun b hb => own_isT hS hb)
  unfold Segs
  rw [List.length_append, List.flatMap_append]
  simpa using own
/-! ### the head of a glyph -/
theorem words_hi (l : List Int) : ∀ i, i < l.length → (words l).getD (2 * i) 0 = hi (l.getD i 0) ∧ (words l).getD (2 * i + 1) 0 = lo (l.getD i 0) := by
  induction l with
  | nil => intro i h; simp at h
  | cons x l ih =>
    intro i h
    have e : words (x :: l) = hi x :: lo x :: words l := by simp [words]
    rw [e]
    cases i with
    | zero => exact ⟨rfl, rfl⟩
    | succ i =>
      have := ih i (by simpa using h)
      rw [show 2 * (i + 1) = 2 * i + 1 + 1 by omega, show 2 * i + 1 + 1 + 1 = 2 * i + 1 + 1 + 1 by omega]
      exact this
theorem hi_lo {v : Int} (h : 0 ≤ v ∧ v ≤ 65535) : hi v * 256 + lo v = v := by unfold hi lo; omega
theorem words_len' (l : List Int) : (words l).length = 2 * l.length := by
  induction l with
  | nil => rfl
  | cons x l ih => rw [show words (x :: l) = hi x :: lo x :: words l from by simp [words], List.length_cons, List.length_cons, ih, List.length_cons]; omega
/-- a word of the head -/
theorem head_word {bs ws : List Int} {rl : List Int} (h : bs = words ws ++ rl) {i : Nat} (hi' : i < ws.length) (hv : 0 ≤ ws.getD i 0 ∧ ws.getD i 0 ≤ 65535) :
    2 * i + 1 < bs.length ∧ bs.getD (2 * i) 0 * 256 + bs.getD (2 * i + 1) 0 = ws.getD i 0 := by
  have hl := words_len' ws
  have hw := words_hi ws i hi'
  refine ⟨by rw [h, List.length_append]; omega, ?_⟩
  rw [h, getD_app _ (by omega), getD_app _ (by omega), hw.1, hw.2, hi_lo hv]
theorem ws_get (k a b c d : Int) (es : List Int) : ((([k, a, b, c, d] : List Int) ++ es ++ [0]).getD 0 0 = k) ∧ (∀ j, j < es.length → (([k, a, b, c, d] : List Int) ++ es ++ [0]).getD (5 + j) 0 = es.getD j 0) ∧ (([k, a, b, c, d] : List Int) ++ es ++ [0]).getD (5 + es.length) 0 = 0 := by
  refine ⟨rfl, fun j hj => ?_, ?_⟩
  · rw [List.getD_eq_getElem?_getD, List.append_assoc, List.getElem?_append_right (by simp), show 5 + j - ([k, a, b, c, d] : List Int).length = j by simp, List.getElem?_append_left hj, List.getD_eq_getElem?_getD]
  · have e : 5 + es.length - (([k, a, b, c, d] : List Int) ++ es).length = 0 := by simp; omega
    rw [List.getD_eq_getElem?_getD, List.getElem?_append_right (by simp; omega), e]
    rfl
theorem ends_get (cs : List (List Dot)) (k j : Nat) (h : j < k) : (ends cs k).getD j 0 = (dots (cs.take (j + 1)) : Int) - 1 := by
  unfold ends
  rw [List.getD_eq_getElem?_getD, List.getElem?_map, List.getElem?_range h]
  rfl
theorem dots_pos {cs : List (List Dot)} (hok : ∀ c ∈ cs, ConOk c) (j : Nat) (h : j < cs.length) : dots (cs.take j) + 1 ≤ dots (cs.take (j + 1)) := by
  have h1 := dots_take cs j h
  have h2 := (hok _ (getD_mem cs j [] h)).1
  omega
theorem dots_mono {cs : List (List Dot)} (j : Nat) (h : j ≤ cs.length) : dots (cs.take j) ≤ dots cs := by
  have : cs = cs.take j ++ cs.drop j := (List.take_append_drop j cs).symm
  have h2 : dots cs = dots (cs.take j) + dots (cs.drop j) := by
    conv => lhs; rw [this]
    unfold dots
    rw [List.map_append, List.sum_append]
  omega
/-- what a glyph's bytes say at their head, and where its dots begin -/
structure HeadOk (cs : List (List Dot)) (bs : List Int) : Prop where
  n : bs.getD 0 0 * 256 + bs.getD 1 0 = (cs.length : Int)
  ends : ∀ j, j < cs.length → bs.getD (10 + 2 * j) 0 * 256 + bs.getD (10 + 2 * j + 1) 0 = (dots (cs.take (j + 1)) : Int) - 1
  hint : bs.getD (10 + 2 * cs.length) 0 * 256 + bs.getD (10 + 2 * cs.length + 1) 0 = 0
  byt : Byt bs
  len : 12 + 2 * cs.length ≤ bs.length
  beg : ∃ q X Y, Fl bs (12 + 2 * cs.length) (dots cs) q X Y ∧ q + X + Y = bs.length ∧ Pos bs 0 0 (12 + 2 * cs.length) q (q + X) (0, 0, false) cs.flatten
theorem cod_head {cs : List (List Dot)} {bs : List Int} (h : Cod cs bs) (h3 : cs.length ≤ 3) (hok : ∀ c ∈ cs, ConOk c) : HeadOk cs bs := by
  obtain ⟨a, b, c, d, rl, fs, xs, ys, e, hRf, hEnc, hB⟩ := h
  have hle : (Head a b c d cs).length = 12 + 2 * cs.length := head_len a b c d cs
  have e2 : bs = words ([(cs.length : Int), a, b, c, d] ++ DatE.ends cs cs.length ++ [0]) ++ (rl ++ xs ++ ys) := by rw [e]; simp [Head]
  have hg := ws_get (cs.length : Int) a b c d (DatE.ends cs cs.length)
  rw [ends_len] at hg
  have hwl : ([(cs.length : Int), a, b, c, d] ++ DatE.ends cs cs.length ++ [0]).length = 6 + cs.length := by simp [ends_len]; omega
  obtain ⟨l1, l2, l3⟩ := hEnc.len
  have hdl := dots_le cs hok
  refine ⟨?_, fun j hj => ?_, ?_, hB, by rw [e]; simp only [List.length_append, hle]; omega, 12 + 2 * cs.length + rl.length, xs.length, ys.length, ?_, ?_, 0, fs, xs, ys, 12 + 2 * cs.length + rl.length, enc_dec hEnc, fun h => absurd h (by omega), ?_, ?_, ?_⟩
  · have := head_word e2 (i := 0) (by omega) (by rw [hg.1]; omega)
    rw [hg.1] at this
    exact this.2
  · have hpos := dots_pos hok j hj
    have hm := dots_mono (cs := cs) (j + 1) hj
    have he := ends_get cs cs.length j hj
    have := head_word e2 (i := 5 + j) (by omega) (by rw [hg.2.1 j hj, he]; omega)
    rw [hg.2.1 j hj, he] at this
    rw [show 10 + 2 * j = 2 * (5 + j) by omega]
    exact this.2
  · have := head_word e2 (i := 5 + cs.length) (by omega) (by rw [hg.2.2]; omega)
    rw [hg.2.2] at this
    rw [show 10 + 2 * cs.length = 2 * (5 + cs.length) by omega]
    exact this.2
  · have h1 := (hRf.app (xs ++ ys)).fl
    rw [l1, dots_flat, ← l2, ← l3] at h1
    rw [e, List.append_assoc (Head a b c d cs ++ rl)]
    exact h1
  · rw [e]; simp only [List.length_append, hle]
  · have h1 := hRf.app (xs ++ ys)
    rw [e, List.append_assoc (Head a b c d cs ++ rl)]
    exact h1
  · have := sub_app (Head a b c d cs ++ rl) xs ys
    rw [show (Head a b c d cs ++ rl).length = 12 + 2 * cs.length + rl.length by simp only [List.length_append, hle]] at this
    rw [e]; exact this
  · have := sub_app (Head a b c d cs ++ rl ++ xs) ys []
    rw [show (Head a b c d cs ++ rl ++ xs).length = 12 + 2 * cs.length + rl.length + xs.length by simp only [List.length_append, hle]] at this
    rw [e]; rw [List.append_nil] at this; exact this
end Go.Proofs.YtdeaodgcdacleaaDoor.LdB
