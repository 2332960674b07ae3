/- The making of a font: its glyphs. -/
import Derived.Test.YthcdolgmifkfdaaDoorCadK
import Derived.Deep.RegionHeld3
import Derived.Deep.CutBlock
import Derived.Deep.QuietTactic
import Derived.BigQuiet
namespace Go.Proofs.YthcdolgmifkfdaaDoor.CadM
open Go.ChangeShapes Go.WideShapes Go.ChangeAt Go.RowKit
open Lst Mem RowG GlyM GlyN GlyO MadN CadL CadF
set_option linter.unusedSimpArgs false
set_option linter.unusedVariables false
variable {LV : Value} {fm : Int} {ps : List Pr}
open CadG CadH CadI CadJ CadP CadQ CadR CadS CadK
section
variable {w0 Y2 : World} {wa N gc gc3 m cap mb : Nat} {GA GA3 A : Option Addr} {Gs : List Gl} {G : Gl} {ms : List Int} {cs : List Value}
/-- a glyph more in the font's list -/
theorem inv_push (hs : Src w0 A m ms) (hok : GsOk (Gs ++ [G])) (hl : Gs.length = N) (h8 : N ≤ 8) (hgl : Glys T Y2 w0.heap.size (.slice GA3 (N + 1 : Nat) gc3) (Gs ++ [G])) (hk : Kc fm [] w0 mb cs A m cap Y2) (h1 : ∀ u ∈ cs, u.oneCell' = true) (hlen : cs.length = 28) (h27 : cs[27]? = some (.int .i64 wa)) :
    Inv fm [] w0 wa (N + 1) GA3 gc3 (Gs ++ [G]) A m cap ms mb (cs.set 1 (.slice GA3 (N + 1 : Nat) gc3)) (Y2.setCell ⟨mb, 1, none⟩ (.slice GA3 (N + 1 : Nat) gc3)) :=
  ⟨hs, Glys.set_ hgl hk.1 (by decide) (by decide) (by decide) (by decide), hok, by rw [List.length_append, hl]; rfl, ⟨by omega, by omega⟩, hk.set_ _ _, fun v hv => by
    rcases List.mem_or_eq_of_mem_set hv with hv | rfl
    · exact h1 v hv
    · rfl, by rw [List.length_set]; exact hlen, List.getElem?_set_self (by omega), by rw [List.getElem?_set_ne (by decide)]; exact h27⟩
theorem inv_src (h : Inv fm [] w0 wa N GA gc Gs A m cap ms mb cs Y2) : Src w0 A m ms := h.1
theorem inv_ok (h : Inv fm [] w0 wa N GA gc Gs A m cap ms mb cs Y2) : GsOk Gs := h.2.2.1
theorem inv_glen (h : Inv fm [] w0 wa N GA gc Gs A m cap ms mb cs Y2) : Gs.length = N := h.2.2.2.1
theorem inv_ones (h : Inv fm [] w0 wa N GA gc Gs A m cap ms mb cs Y2) : ∀ u ∈ cs, u.oneCell' = true := h.2.2.2.2.2.2.1
theorem inv_c1 (h : Inv fm [] w0 wa N GA gc Gs A m cap ms mb cs Y2) : cs[1]? = some (.slice GA N gc) := h.2.2.2.2.2.2.2.2.1
theorem inv_c27 (h : Inv fm [] w0 wa N GA gc Gs A m cap ms mb cs Y2) : cs[27]? = some (.int .i64 wa) := h.2.2.2.2.2.2.2.2.2
theorem inv_gat (h : Inv fm [] w0 wa N GA gc Gs A m cap ms mb cs Y2) : 0 < N → ∃ b, GA = some ⟨b, 0, none⟩ ∧ b < Y2.heap.size ∧ GlyAt T Y2 w0.heap.size b Gs := by
  obtain ⟨A2, c2, he, hat⟩ := h.gl.at_
  rw [inv_glen h] at he hat
  injection he with a _ c
  subst a c
  exact hat
end
set_option maxHeartbeats 60000000 in
set_option maxRecDepth 4000 in
theorem r4 (f : Int) (wa N : Nat) (GA A : Option Addr) (gc m cap mb : Nat) (ms : List Int) (Gs : List Gl) (cs : List Value) (w W : World) (a : Act) (c : Code) (hc : c = dropC 4 body) (ha : Fr LV f w.heap.size mb a) (hI : Inv fm [] w wa N GA gc Gs A m cap ms mb cs W) (hf : 0 ≤ f ∧ f ≤ 4294967295) (hLt : Ltr w LV) (hN1 : N = 1) (h2 : cs[2]? = some (.slice none 0 0)) (h3 : cs[3]? = some (.slice none 0 0)) (h26 : cs[26]? = some (.slice none 0 0)) (hv : cs[8]? = some (.slice none 0 0)) (h9 : cs[9]? = some (.slice none 0 0)) (SA : Option Addr) (l lc : Nat) (ss : List Int) (hl : l = ss.length) (hl2 : l ≤ 100) (hlc : l ≤ lc) (hsr : ∀ x ∈ ss, 0 ≤ x ∧ x ≤ 4294967295) (hsh : 0 < l → ∃ b off, SA = some ⟨b, off, none⟩ ∧ b < w.heap.size ∧ At w b off (vals .u32 ss)) (h1 : a.tmps[1]? = some (.slice SA l lc)) (h6 : a.tmps[6]? = some (.pointer (some ⟨w.heap.size, 0, none⟩))) : Code.wp Tryd.prog c (EndsM fm w wa) a W := by
  rw [hc]
  conv in (dropC _ _) => whnf
  obtain ⟨S, he, hS⟩ := ha.open_
  have e1 := hS 1 _ h1
  have e6 := hS 6 _ h6
  clear h1 h6
  subst he
  clear ha hc hS
  rw [e1]
  clear e1
  rw [e6]
  clear e6
  subst hN1
  obtain ⟨i1, hi1, iz1, iy1, ib1⟩ := info_parts ginfo
  have HI := Lib.hid hI
  have HJ := Lib.hid (And.intro h2 (And.intro h3 (And.intro h26 (And.intro hv h9))))
  have HSS := Lib.hid hsr
  have HSH := Lib.hid hsh
  have HLL := Lib.hid hl
  clear hI h2 h3 h26 hv h9 hsr hsh hl
  obtain ⟨K, hK8, hKl, hmin⟩ : ∃ K : Nat, K ≤ 8 ∧ K ≤ l ∧ (if (8 : Int) < (l : Int) then (8 : Int) else (l : Int)) = (K : Int) := by
    by_cases h : (8 : Int) < (l : Int)
    · exact ⟨8, by omega, by omega, if_pos h⟩
    · exact ⟨l, by omega, by omega, if_neg h⟩
  go_wp2
  go_loopw [72] (fun i wr => ∃ (k : Nat) (Gs : List Gl) (GA : Option Addr) (gc : Nat) (cs' : List Value), k ≤ K ∧ i = .int .i64 k ∧ Inv fm [] w wa (k + 1) GA gc Gs A m cap ms mb cs' wr ∧ (cs'[2]? = some (.slice none 0 0) ∧ cs'[3]? = some (.slice none 0 0) ∧ cs'[26]? = some (.slice none 0 0) ∧ cs'[8]? = some (.slice none 0 0) ∧ cs'[9]? = some (.slice none 0 0))) (fun i _ => K - (intOf i).toNat)
  case atStart => exact ⟨0, Gs, GA, gc, cs, Nat.zero_le _, rfl, HI.out, HJ.out⟩
  case round =>
    clear HI HJ
    obtain ⟨k, Gs, GA, gc, cs2, hkK, rfl, hIX0, ⟨c2, c3, c26, c8, c9⟩⟩ := hrel
    by_cases hlt : k < K
    · obtain ⟨sb, off, hSA, hsl, hA⟩ := HSH.out (by omega)
      subst hSA
      have hkl : k < ss.length := by rw [← HLL.out]; omega
      have d1 := (hIX0.kc.2.2.2.2.1.cell (p := ⟨sb, off + k, none⟩) hsl).trans (hA.get (j := k) hkl)
      have hx0 := HSS.out _ (getD_mem ss k 0 hkl)
      obtain ⟨x, hx⟩ : ∃ x, x = ss.getD k 0 := ⟨_, rfl⟩
      rw [← hx] at d1 hx0
      clear hA hx hkl hsl
      obtain ⟨X0, hX0⟩ : ∃ W, W = wr := ⟨_, rfl⟩
      subst hX0
      have c1 := (inv_c1 hIX0)
      have h27 := (inv_c27 hIX0)
      have hln := hIX0.len
      have hone := (inv_ones hIX0)
      have hok := (inv_ok hIX0)
      have hGl := (inv_glen hIX0)
      have HK := Lib.hid (And.intro h27 (And.intro hln (And.intro hone hok)))
      clear h27 hone hok
      go_wp2_with fail
      refine Tail.start (S := (fun w1 => Blk mb 36 cs2 w1 ∧ Blk w.heap.size 47 [.slice A m cap] w1)) (tl := [10]) (by kernel_rfl) ⟨hIX0.drew.kc.1, hIX0.drew.kc.2.1⟩ (fun hHeld => ?_)
      obtain ⟨X, hX⟩ : ∃ X, X = X0.drew := ⟨_, rfl⟩
      have hIX := hIX0.drew
      rw [← hX] at hIX
      rw [← hX]
      clear hX hHeld hIX0
      have hHeld : (fun w1 => Blk mb 36 cs2 w1 ∧ Blk w.heap.size 47 [.slice A m cap] w1) X := ⟨hIX.kc.1, hIX.kc.2.1⟩
      clear d1
      refine Tail.take (i := 0) (v := ?vq1) rfl (by kernel_rfl) (by kernel_rfl) (by kernel_rfl) (by kernel_rfl) (by kernel_rfl) (fun _ _ _ h => h) (Or.inl ⟨by rfl, ?hyq1⟩) (by assumption) ?restq1
      case hyq1 => (intro w1 hS; go_simp <;> with_reducible rfl)
      try simp only [Act.put, List.getElem_toArray, List.getElem_cons_zero, List.getElem_cons_succ, List.setIfInBounds_toArray, List.set_cons_zero, List.set_cons_succ]
      refine Tail.take (i := 1) (v := ?vq2) rfl (by kernel_rfl) (by kernel_rfl) (by kernel_rfl) (by kernel_rfl) (by kernel_rfl) (fun _ _ _ h => h) (Or.inl ⟨by rfl, ?hyq2⟩) (by assumption) ?restq2
      case hyq2 => (intro w1 hS; obtain ⟨s1, s2⟩ := hS; have m1 := s1.cell (i := 1) c1; go_simp <;> with_reducible rfl)
      try simp only [Act.put, List.getElem_toArray, List.getElem_cons_zero, List.getElem_cons_succ, List.setIfInBounds_toArray, List.set_cons_zero, List.set_cons_succ]
      refine Tail.take (i := 2) (v := ?vq3) rfl (by kernel_rfl) (by kernel_rfl) (by kernel_rfl) (by kernel_rfl) (by kernel_rfl) (fun _ _ _ h => h) (Or.inl ⟨by rfl, ?hyq3⟩) (by assumption) ?restq3
      case hyq3 => (intro w1 hS; go_simp <;> with_reducible rfl)
      try simp only [Act.put, List.getElem_toArray, List.getElem_cons_zero, List.getElem_cons_succ, List.setIfInBounds_toArray, List.set_cons_zero, List.set_cons_succ]
      refine Tail.take (i := 3) (v := ?vq4) rfl (by kernel_rfl) (by kernel_rfl) (by kernel_rfl) (by kernel_rfl) (by kernel_rfl) (fun _ _ _ h => h) (Or.inl ⟨by rfl, ?hyq4⟩) (by assumption) ?restq4
      case hyq4 => (intro w1 hS; obtain ⟨s1, s2⟩ := hS; have n0 := s2.cell (i := 0) rfl; go_simp <;> with_reducible rfl)
      try simp only [Act.put, List.getElem_toArray, List.getElem_cons_zero, List.getElem_cons_succ, List.setIfInBounds_toArray, List.set_cons_zero, List.set_cons_succ]
      refine Tail.take (i := 4) (v := ?vq5) rfl (by kernel_rfl) (by kernel_rfl) (by kernel_rfl) (by kernel_rfl) (by kernel_rfl) (fun _ _ _ h => h) (Or.inl ⟨by rfl, ?hyq5⟩) (by assumption) ?restq5
      case hyq5 => (intro w1 hS; go_simp <;> with_reducible rfl)
      try simp only [Act.put, List.getElem_toArray, List.getElem_cons_zero, List.getElem_cons_succ, List.setIfInBounds_toArray, List.set_cons_zero, List.set_cons_succ]
      refine Tail.take (i := 5) (v := ?vq6) rfl (by kernel_rfl) (by kernel_rfl) (by kernel_rfl) (by kernel_rfl) (by kernel_rfl) (fun _ _ _ h => h) (Or.inl ⟨by rfl, ?hyq6⟩) (by assumption) ?restq6
      case hyq6 => (intro w1 hS; obtain ⟨s1, s2⟩ := hS; have m1 := s1.cell (i := 1) c1; go_simp <;> with_reducible rfl)
      try simp only [Act.put, List.getElem_toArray, List.getElem_cons_zero, List.getElem_cons_succ, List.setIfInBounds_toArray, List.set_cons_zero, List.set_cons_succ]
      refine Tail.ready (rs := [6]) (by kernel_rfl) (by simp) (Tail.AllReadyL.cons rfl (fun K hK => ?_) Tail.AllReadyL.nil)
      go_simp
      go_at_call 10
      refine (glyphOf_any x A GA m cap (k + 1) gc w.heap.size ms Gs X hx0 (((inv_src hIX)).below hIX.kc.2.2.2.2.1) hGl.symm (by omega) (inv_gat hIX)).mono ?_
      rintro e X1 ⟨vc, vr, G, rfl, hG, hGo, hdX1⟩
      have hIX1 := hIX.below hdX1
      try go_wp2_with fail
      refine hK.out _ _ ⟨hIX1.kc.1, hIX1.kc.2.1⟩ (fun hHeld => ?_)
      clear hK K
      try simp only [Act.put, List.getElem_toArray, List.getElem_cons_zero, List.getElem_cons_succ, List.setIfInBounds_toArray, List.set_cons_zero, List.set_cons_succ]
      refine Tail.ready (rs := [7]) (by kernel_rfl) (by simp) (Tail.AllReadyL.cons rfl (fun K hK => ?_) Tail.AllReadyL.nil)
      go_simp
      have hd0 := bel_made X1 #[vc, vr] 53
      have hI0 := hIX1.below hd0
      refine hK.out _ _ ⟨hI0.kc.1, hI0.kc.2.1⟩ (fun hHeld => ?_)
      clear hK K
      try simp only [Act.put, List.getElem_toArray, List.getElem_cons_zero, List.getElem_cons_succ, List.setIfInBounds_toArray, List.set_cons_zero, List.set_cons_succ]
      obtain ⟨Y, hY⟩ : ∃ Y, Y = X1.alloc (.cells #[vc, vr] 53) := ⟨_, rfl⟩
      have hbY : Blk X1.heap.size 53 [vc, vr] Y := by rw [hY]; exact Blk.new_ X1 #[vc, vr] 53
      rw [← hY]
      rw [← hY] at hHeld hd0 hI0
      have hIY := hI0
      have hdY := hd0
      clear hY hI0 hd0
      have hkY := hIY.kc
      have hGY := hG.same (Same.below hdY)
      obtain ⟨xs, hro, hri⟩ := hIY.gl
      refine Tail.ready (rs := [8]) (by kernel_rfl) (by simp) (Tail.AllReadyL.cons rfl (fun K hK => ?_) Tail.AllReadyL.nil)
      refine step_app2 rfl (.tmp 77) (.tmp 83) 27 rfl (w.heap.size) 53 i1 (.agg #[.slice none 0 0, .slice none 0 0]) 2 48 Tryd.underlying27 hi1 iz1 iy1 ib1 rfl (by decide) (.slice GA (k + 1 : Nat) gc) (k + 1) xs rfl (by have h := hro; rw [hGl] at h; exact h) ⟨X1.heap.size, 0, none⟩ 1 1 [vc, vr] rfl rfl (two_cells hbY) (gly_any vc vr G hGY) (by unfold maxLen; omega) (by omega) (by have := hkY.sz; omega) ?_
      intro v8 Y2 own8 grow8 nil8 at8
      have hgl2 := Glys.more hro hri hGY (show w.heap.size ≤ X.heap.size by have := hIX.sz; omega) grow8 (by rw [hGl]; exact own8)
      have hkY2 := hkY.grown grow8 (t := 53) (fun b hb => own_isT hro hb) (by decide) (by decide)
      refine hK.out _ _ ⟨hkY2.1, hkY2.2.1⟩ (fun hHeld => ?_)
      clear hK K
      try simp only [Act.put, List.getElem_toArray, List.getElem_cons_zero, List.getElem_cons_succ, List.setIfInBounds_toArray, List.set_cons_zero, List.set_cons_succ]
      obtain ⟨GA3, gc3, hv8, _⟩ := hgl2.at_
      rw [List.length_append, hGl, List.length_singleton] at hv8
      subst hv8
      refine Tail.take (i := 9) (v := ?vq7) rfl (by kernel_rfl) (by kernel_rfl) (by kernel_rfl) (by kernel_rfl) (by kernel_rfl) (fun _ _ _ h => h) (Or.inl ⟨by rfl, ?hyq7⟩) (by assumption) ?restq7
      case hyq7 => (intro w1 hS; go_simp <;> with_reducible rfl)
      try simp only [Act.put, List.getElem_toArray, List.getElem_cons_zero, List.getElem_cons_succ, List.setIfInBounds_toArray, List.set_cons_zero, List.set_cons_succ]
      refine Tail.ready (rs := [10]) (by kernel_rfl) (by simp) (Tail.AllReadyL.last rfl (by rfl) (fun K hK => ?_) Tail.AllReadyL.nil)
      have ccx := hkY2.1.cell (i := 1) c1
      have cfx := hkY2.1.frozen
      go_simp
      refine hK.out _ _ ?_
      clear hK K
      try simp only [Act.put, List.getElem_toArray, List.getElem_cons_zero, List.getElem_cons_succ, List.setIfInBounds_toArray, List.set_cons_zero, List.set_cons_succ]
      refine Tail.done (by kernel_rfl) ?_ _
      obtain ⟨W1, hW⟩ : ∃ W1, W1 = Y2.setCell ⟨mb, 1, none⟩ (.slice GA3 (k + 1 + 1 : Nat) gc3) := ⟨_, rfl⟩
      have hIW1 := inv_push (wa := wa) (inv_src hIX) (HK.out.2.2.2.push hGo) hGl (by omega) hgl2 hkY2 HK.out.2.2.1 hln HK.out.1
      rw [← hW] at hIW1
      try rw [← hW]
      have HF := Lib.hid hIW1
      clear hW ccx cfx hIW1 hHeld hgl2 hkY2 hkY hGY hro hri grow8 own8 nil8 at8 hdY hdX1 hIX hIX1 hIY hbY hG
      have d2 : (cs2.set 1 (.slice GA3 (k + 1 + 1 : Nat) gc3))[2]? = some (.slice none 0 0) := by rw [List.getElem?_set_ne (by decide)]; exact c2
      have d3 : (cs2.set 1 (.slice GA3 (k + 1 + 1 : Nat) gc3))[3]? = some (.slice none 0 0) := by rw [List.getElem?_set_ne (by decide)]; exact c3
      have d26 : (cs2.set 1 (.slice GA3 (k + 1 + 1 : Nat) gc3))[26]? = some (.slice none 0 0) := by rw [List.getElem?_set_ne (by decide)]; exact c26
      have d8 : (cs2.set 1 (.slice GA3 (k + 1 + 1 : Nat) gc3))[8]? = some (.slice none 0 0) := by rw [List.getElem?_set_ne (by decide)]; exact c8
      have d9 : (cs2.set 1 (.slice GA3 (k + 1 + 1 : Nat) gc3))[9]? = some (.slice none 0 0) := by rw [List.getElem?_set_ne (by decide)]; exact c9
      have HD := Lib.hid (And.intro d2 (And.intro d3 (And.intro d26 (And.intro d8 d9))))
      clear d2 d3 d26 d8 d9 c1 c2 c3 c26 c8 c9
      go_wp2
      go_roundw
      case rel => exact ⟨k + 1, Gs ++ [G], GA3, gc3, _, by omega, by go_num, HF.out, HD.out⟩
      case measure => simp [intOf]; omega
    · obtain rfl : K = k := by omega
      repeat (first | ((with_reducible refine Gate.seq ?_); refine r5 f wa (K + 1) GA A gc m cap mb ms Gs cs2 w _ _ _ (by kernel_rfl) (by exact ⟨rfl, rfl, rfl, rfl, rfl, rfl, rfl⟩) hIX0 hf hLt c2 c3 c26 c8 c9) | go_values | go_skip | go_guarded | go_step | go_upon | go_back | go_simp)
set_option maxHeartbeats 60000000 in
set_option maxRecDepth 4000 in
theorem r3 (f : Int) (wa : Nat) (A : Option Addr) (m cap mb : Nat) (ms : List Int) (cs : List Value) (w W : World) (a : Act) (c : Code) (hc : c = dropC 3 body) (ha : Fr LV f w.heap.size mb a) (hf : 0 ≤ f ∧ f ≤ 4294967295) (hLt : Ltr w LV) (h2 : cs[2]? = some (.slice none 0 0)) (h3 : cs[3]? = some (.slice none 0 0)) (h26 : cs[26]? = some (.slice none 0 0)) (hv : cs[8]? = some (.slice none 0 0)) (h9 : cs[9]? = some (.slice none 0 0)) (SA : Option Addr) (l lc : Nat) (ss : List Int) (hl : l = ss.length) (hl2 : l ≤ 100) (hlc : l ≤ lc) (hsr : ∀ x ∈ ss, 0 ≤ x ∧ x ≤ 4294967295) (hsh : 0 < l → ∃ b off, SA = some ⟨b, off, none⟩ ∧ b < w.heap.size ∧ At w b off (vals .u32 ss)) (h1 : a.tmps[1]? = some (.slice SA l lc)) (h6 : a.tmps[6]? = some (.pointer (some ⟨w.heap.size, 0, none⟩))) (hs : Src w A m ms) (hk : Kc fm [] w mb cs A m cap W) (hone : ∀ u ∈ cs, u.oneCell' = true) (hln : cs.length = 28) (h27 : cs[27]? = some (.int .i64 wa)) (hc1 : cs[1]? = some (.slice none 0 0)) : Code.wp Tryd.prog c (EndsM fm w wa) a W := by
  rw [hc]
  conv in (dropC _ _) => whnf
  obtain ⟨S, he, hS⟩ := ha.open_
  have e1 := hS 1 _ h1
  have e6 := hS 6 _ h6
  clear h1 h6
  subst he
  clear ha hc hS
  rw [e1]
  clear e1
  rw [e6]
  clear e6
  obtain ⟨i1, hi1, iz1, iy1, ib1⟩ := info_parts ginfo
  have HJ := Lib.hid (And.intro h2 (And.intro h3 (And.intro h26 (And.intro hv h9))))
  have HK := Lib.hid (And.intro hs (And.intro h27 hone))
  have HSH := Lib.hid (And.intro hl (And.intro hsr hsh))
  clear h2 h3 h26 hv h9 hsr hsh hl hs hone h27
  obtain ⟨X0, hX0⟩ : ∃ X, X = W := ⟨_, rfl⟩
  subst hX0
  go_wp2_with fail
  refine Tail.start (S := (fun w1 => Blk mb 36 cs w1 ∧ Blk w.heap.size 47 [.slice A m cap] w1)) (tl := [7]) (by kernel_rfl) ⟨hk.drew.1, hk.drew.2.1⟩ (fun hHeld => ?_)
  obtain ⟨X, hX⟩ : ∃ X, X = X0.drew := ⟨_, rfl⟩
  have hkX := hk.drew
  rw [← hX] at hkX
  rw [← hX]
  clear hX hHeld hk
  have hHeld : (fun w1 => Blk mb 36 cs w1 ∧ Blk w.heap.size 47 [.slice A m cap] w1) X := ⟨hkX.1, hkX.2.1⟩
  refine Tail.take (i := 0) (v := ?vq8) rfl (by kernel_rfl) (by kernel_rfl) (by kernel_rfl) (by kernel_rfl) (by kernel_rfl) (fun _ _ _ h => h) (Or.inl ⟨by rfl, ?hyq8⟩) (by assumption) ?restq8
  case hyq8 => (intro w1 hS; go_simp <;> with_reducible rfl)
  try simp only [Act.put, List.getElem_toArray, List.getElem_cons_zero, List.getElem_cons_succ, List.setIfInBounds_toArray, List.set_cons_zero, List.set_cons_succ]
  refine Tail.take (i := 1) (v := ?vq9) rfl (by kernel_rfl) (by kernel_rfl) (by kernel_rfl) (by kernel_rfl) (by kernel_rfl) (fun _ _ _ h => h) (Or.inl ⟨by rfl, ?hyq9⟩) (by assumption) ?restq9
  case hyq9 => (intro w1 hS; obtain ⟨s1, s2⟩ := hS; have m1 := s1.cell (i := 1) hc1; go_simp <;> with_reducible rfl)
  try simp only [Act.put, List.getElem_toArray, List.getElem_cons_zero, List.getElem_cons_succ, List.setIfInBounds_toArray, List.set_cons_zero, List.set_cons_succ]
  refine Tail.take (i := 2) (v := ?vq10) rfl (by kernel_rfl) (by kernel_rfl) (by kernel_rfl) (by kernel_rfl) (by kernel_rfl) (fun _ _ _ h => h) (Or.inl ⟨by rfl, ?hyq10⟩) (by assumption) ?restq10
  case hyq10 => (intro w1 hS; obtain ⟨s1, s2⟩ := hS; have n0 := s2.cell (i := 0) rfl; go_simp <;> with_reducible rfl)
  try simp only [Act.put, List.getElem_toArray, List.getElem_cons_zero, List.getElem_cons_succ, List.setIfInBounds_toArray, List.set_cons_zero, List.set_cons_succ]
  refine Tail.ready (rs := [3]) (by kernel_rfl) (by simp) (Tail.AllReadyL.cons rfl (fun K hK => ?_) Tail.AllReadyL.nil)
  go_simp
  go_at_call 10
  refine (glyphOf_any 1073741825 A none m cap 0 0 0 ms [] X (by omega) (HK.out.1.below hkX.2.2.2.2.1) rfl (by omega) (fun h => absurd h (by omega))).mono ?_
  rintro e X1 ⟨vc, vr, G, rfl, hG, hGo, hdX1⟩
  have hkX1 := hkX.below hdX1
  try go_wp2_with fail
  refine hK.out _ _ ⟨hkX1.1, hkX1.2.1⟩ (fun hHeld => ?_)
  clear hK K
  try simp only [Act.put, List.getElem_toArray, List.getElem_cons_zero, List.getElem_cons_succ, List.setIfInBounds_toArray, List.set_cons_zero, List.set_cons_succ]
  refine Tail.ready (rs := [4]) (by kernel_rfl) (by simp) (Tail.AllReadyL.cons rfl (fun K hK => ?_) Tail.AllReadyL.nil)
  go_simp
  have hdY := bel_made X1 #[vc, vr] 53
  have hkY := hkX1.below hdY
  refine hK.out _ _ ⟨hkY.1, hkY.2.1⟩ (fun hHeld => ?_)
  clear hK K
  try simp only [Act.put, List.getElem_toArray, List.getElem_cons_zero, List.getElem_cons_succ, List.setIfInBounds_toArray, List.set_cons_zero, List.set_cons_succ]
  obtain ⟨Y, hY⟩ : ∃ Y, Y = X1.alloc (.cells #[vc, vr] 53) := ⟨_, rfl⟩
  have hbY : Blk X1.heap.size 53 [vc, vr] Y := by rw [hY]; exact Blk.new_ X1 #[vc, vr] 53
  rw [← hY]
  rw [← hY] at hHeld hdY hkY
  clear hY
  have hGY := hG.same (Same.below hdY)
  refine Tail.ready (rs := [5]) (by kernel_rfl) (by simp) (Tail.AllReadyL.cons rfl (fun K hK => ?_) Tail.AllReadyL.nil)
  refine step_app2 rfl (.tmp 60) (.tmp 63) 27 rfl (w.heap.size) 53 i1 (.agg #[.slice none 0 0, .slice none 0 0]) 2 48 Tryd.underlying27 hi1 iz1 iy1 ib1 rfl (by decide) (.slice none 0 0) (0) [] rfl (World.ownsRow_nil _ _ _ _) ⟨X1.heap.size, 0, none⟩ 1 1 [vc, vr] rfl rfl (two_cells hbY) (gly_any vc vr G hGY) (by unfold maxLen; omega) (by omega) (by have := hkY.sz; omega) ?_
  intro v5 Y2 own5 grow5 nil5 at5
  have hgl2 := Glys.more (Gs := []) (World.ownsRow_nil _ _ _ _) (fun i h => absurd h (by simp)) hGY (show w.heap.size ≤ X.heap.size by have := hkX.sz; omega) grow5 own5
  have hkY2 := hkY.grown grow5 (t := 53) (fun b hb => by cases hb) (by decide) (by decide)
  refine hK.out _ _ ⟨hkY2.1, hkY2.2.1⟩ (fun hHeld => ?_)
  clear hK K
  try simp only [Act.put, List.getElem_toArray, List.getElem_cons_zero, List.getElem_cons_succ, List.setIfInBounds_toArray, List.set_cons_zero, List.set_cons_succ]
  obtain ⟨GA3, gc3, hv8, _⟩ := hgl2.at_
  rw [List.length_append, List.length_nil, List.length_singleton] at hv8
  subst hv8
  refine Tail.take (i := 6) (v := ?vq11) rfl (by kernel_rfl) (by kernel_rfl) (by kernel_rfl) (by kernel_rfl) (by kernel_rfl) (fun _ _ _ h => h) (Or.inl ⟨by rfl, ?hyq11⟩) (by assumption) ?restq11
  case hyq11 => (intro w1 hS; go_simp <;> with_reducible rfl)
  try simp only [Act.put, List.getElem_toArray, List.getElem_cons_zero, List.getElem_cons_succ, List.setIfInBounds_toArray, List.set_cons_zero, List.set_cons_succ]
  refine Tail.ready (rs := [7]) (by kernel_rfl) (by simp) (Tail.AllReadyL.last rfl (by rfl) (fun K hK => ?_) Tail.AllReadyL.nil)
  have ccx := hkY2.1.cell (i := 1) hc1
  have cfx := hkY2.1.frozen
  go_simp
  refine hK.out _ _ ?_
  clear hK K
  try simp only [Act.put, List.getElem_toArray, List.getElem_cons_zero, List.getElem_cons_succ, List.setIfInBounds_toArray, List.set_cons_zero, List.set_cons_succ]
  refine Tail.done (by kernel_rfl) ?_ _
  obtain ⟨W1, hW⟩ : ∃ W1, W1 = Y2.setCell ⟨mb, 1, none⟩ (.slice GA3 (0 + 1 : Nat) gc3) := ⟨_, rfl⟩
  have hIW1 := inv_push (N := 0) HK.out.1 (GsOk.nil_.push hGo) rfl (by omega) hgl2 hkY2 HK.out.2.2 hln HK.out.2.1
  rw [← hW] at hIW1
  try rw [← hW]
  clear hW ccx cfx hHeld hgl2 hkY2 hkY hGY grow5 own5 nil5 at5 hdY hdX1 hkX hkX1 hbY hG
  repeat (first | ((with_reducible refine Gate.seq ?_); refine r4 f wa (0 + 1) GA3 A gc3 m cap mb ms ([] ++ [G]) _ w _ _ _ (by kernel_rfl) (by exact ⟨rfl, rfl, rfl, rfl, rfl, rfl, rfl⟩) hIW1 hf hLt rfl (by rw [List.getElem?_set_ne (by decide)]; exact HJ.out.1) (by rw [List.getElem?_set_ne (by decide)]; exact HJ.out.2.1) (by rw [List.getElem?_set_ne (by decide)]; exact HJ.out.2.2.1) (by rw [List.getElem?_set_ne (by decide)]; exact HJ.out.2.2.2.1) (by rw [List.getElem?_set_ne (by decide)]; exact HJ.out.2.2.2.2) SA l lc ss HSH.out.1 hl2 hlc HSH.out.2.1 HSH.out.2.2 rfl rfl) | go_values | go_skip | go_guarded | go_step | go_upon | go_back | go_simp)
end Go.Proofs.YthcdolgmifkfdaaDoor.CadM
