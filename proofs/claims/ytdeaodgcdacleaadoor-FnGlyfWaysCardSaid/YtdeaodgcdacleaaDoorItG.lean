/- Contract of the reader's next step. -/
import Derived.Test.YtdeaodgcdacleaaDoorItE
import Derived.Test.YtdeaodgcdacleaaDoorItF
import Derived.Deep.LoopGhost
namespace Go.Proofs.YtdeaodgcdacleaaDoor.ItG
open Go.ChangeShapes Go.WideShapes Go.ChangeAt Go.RowKit
open Lst Mem RowG GlyM IdxB DatE ItA ItB PthA SpecB ItC ItD ItE ItF
set_option linter.unusedSimpArgs false
set_option linter.unusedVariables false
/-- the end of a step -/
def SegP (gb : Nat) (D E : Value) (bs : List Int) (lt : List Dot) (t : It) (cr : List Dot) (W : World) (e : Ending) (w' : World) : Prop :=
  ∃ t', e = .returned (.bool true) ∧ Stp bs lt t cr t' ∧ Blk gb IT (t'.cs D E) w' ∧ W.grownBy w' (some gb)
theorem stp_of {bs : List Int} {lt cr0 cr : List Dot} {t0 t t' : It} (h : left t0 cr0 = left t cr) (hs : Same5 t0 t) (hp : Stp bs lt t cr t') : Stp bs lt t0 cr0 t' := by
  obtain ⟨s, c', h1, h2, h3, h4⟩ := hp
  obtain ⟨a, b, c, d, e⟩ := hs
  obtain ⟨a', b', c', d', e'⟩ := h4
  exact ⟨s, _, h.trans h1, h2, h3, a'.trans a, b'.trans b, c'.trans c, d'.trans d, e'.trans e⟩
theorem same_of {t0 t t' : It} (hs : Same5 t0 t) (h4 : Same5 t t') : Same5 t0 t' := by
  obtain ⟨a, b, c, d, e⟩ := hs
  obtain ⟨a', b', c', d', e'⟩ := h4
  exact ⟨a'.trans a, b'.trans b, c'.trans c, d'.trans d, e'.trans e⟩
theorem seg_none (w : World) (gb : Nat) (D E : Value) (t : It) (hB : Blk gb IT (t.cs D E) w) (hcd : t.cd = true) :
    Calls Tryd.prog 32 #[.pointer (some ⟨gb, 0, none⟩)] w (fun e w' => e = .returned (.bool false) ∧ w = w') := by
  have c18 := hB.cell (i := 18) (u := .bool true) (by rw [← hcd]; rfl)
  clear hB hcd
  go_enter Tryd.func32, Tryd.ntmps32
  go_wp2
  refine wp_loop_rounds 1 ?_
  rw [rounds_succ]
  go_wp2
  go_ret
  exact ⟨rfl, rfl⟩
set_option maxHeartbeats 100000000 in
set_option maxRecDepth 20000 in
theorem seg_any (w : World) (gb g off n cp : Nat) (E : Value) (t0 : It) (bs : List Int) (cr0 lt : List Dot) (hB0 : Blk gb IT (t0.cs (.slice (some ⟨g, off, none⟩) n cp) E) w) (hne : g ≠ gb) (hgl : g < w.heap.size) (hA0 : At w g off (vals .u8 bs)) (hn : n = bs.length) (hcp : n ≤ cp) (hn2 : n ≤ 100000) (hby : Byt bs) (hi0 : IS bs cr0 lt t0) (hcd : t0.cd = false) :
    Calls Tryd.prog 32 #[.pointer (some ⟨gb, 0, none⟩)] w (SegP gb (.slice (some ⟨g, off, none⟩) n cp) E bs lt t0 cr0 w) := by
  have hl0 : Live t0 cr0 := by
    rcases hi0.2.1 with h | h
    · rw [hcd] at h; cases h.1
    · exact h
  have HS := Lib.hid (And.intro hB0 (And.intro hi0.1 hl0))
  have HA := Lib.hid (And.intro hA0 (And.intro hn (And.intro hby hgl)))
  clear hB0 hA0 hn hby hi0 hcd hl0 hgl
  go_enter Tryd.func32, Tryd.ntmps32
  go_wp2
  go_loopg [] cr0.length (fun k wr => ∃ (t : It) (cr : List Dot), k = cr.length ∧ Blk gb IT (t.cs (.slice (some ⟨g, off, none⟩) n cp) E) wr ∧ w.grownBy wr (some gb) ∧ Core bs cr lt t ∧ Live t cr ∧ left t0 cr0 = left t cr ∧ Same5 t0 t)
  case atStart => exact ⟨t0, cr0, rfl, HS.out.1, gself w _, HS.out.2.1, HS.out.2.2, rfl, rfl, rfl, rfl, rfl, rfl⟩
  case round =>
    obtain ⟨t, cr, rfl, hB, hg, hc, hl, hleft, hsame⟩ := hrel
    have c18 := hB.cell (i := 18) (u := .bool false) (by rw [← hl.1]; rfl)
    have c17 := hB.cell (i := 17) rfl
    have cf := hB.frozen
    have hA := at_block HA.out.1 (hg.block g HA.out.2.2.2 (fun e => hne (Option.some.inj e)))
    have HV := Lib.hid (And.intro hB (And.intro hg (And.intro hc (And.intro hl (And.intro hleft (And.intro hsame hA))))))
    clear hB hg hc hl hleft hsame hA
    obtain rfl | ⟨d, cr', rfl⟩ : cr = [] ∨ ∃ d cr', cr = d :: cr' := by
      cases cr with
      | nil => exact .inl rfl
      | cons d c => exact .inr ⟨d, c, rfl⟩
    · have hpe : t.p = t.np := by have := HV.out.2.2.1.2.1.1; simp at this; omega
      have HE := Lib.hid hpe
      clear hpe
      cases hcg : t.cg
      · rw [hcg] at c17
        clear hcg
        go_wp2_with fail
        refine (next_none wr gb _ E t HV.out.1 HE.out).mono ?_
        rintro e W1 ⟨rfl, nq, rfl⟩
        obtain ⟨X, hX⟩ : ∃ X, X = wr.drewN nq := ⟨_, rfl⟩
        have hBX : Blk gb IT (t.cs (.slice (some ⟨g, off, none⟩) n cp) E) X := by rw [hX]; exact HV.out.1
        have hgX : w.grownBy X (some gb) := by rw [hX]; exact ⟨HV.out.2.1.os, HV.out.2.1.tape, HV.out.2.1.output, HV.out.2.1.size, HV.out.2.1.block⟩
        rw [← hX]
        clear hX c18 c17 cf
        have k17 := hBX.cell (i := 17) rfl
        have kf := hBX.frozen
        have hB2 := hBX.set_ 17 (.bool true)
        have hg2 := gtr hgX (gset X gb 17 (.bool true))
        have H2 := Lib.hid (And.intro hB2 hg2)
        clear hBX hgX hB2 hg2
        go_wp2_with fail
        cases h2 : t.v2 <;> cases h3 : t.v3
        · refine (close_ff _ gb _ E { t with cg := true } H2.out.1 h2 h3).mono ?_
          rintro e W2 ⟨rfl, hb, hgw⟩
          have H3 := Lib.hid (And.intro hb (And.intro hgw (end_ff HV.out.2.2.1 HV.out.2.2.2.1 h2 h3)))
          clear hb hgw h2 h3
          go_wp2_with fail
          go_ret
          exact ⟨_, rfl, stp_of HV.out.2.2.2.2.1 HV.out.2.2.2.2.2.1 H3.out.2.2, H3.out.1, gtr H2.out.2 H3.out.2.1⟩
        · refine (close_ft _ gb _ E { t with cg := true } H2.out.1 h2 h3).mono ?_
          rintro e W2 ⟨rfl, hb, hgw⟩
          have H3 := Lib.hid (And.intro hb (And.intro hgw (end_ft HV.out.2.2.1 HV.out.2.2.2.1 h2 h3)))
          clear hb hgw h2 h3
          go_wp2_with fail
          go_ret
          exact ⟨_, rfl, stp_of HV.out.2.2.2.2.1 HV.out.2.2.2.2.2.1 H3.out.2.2, H3.out.1, gtr H2.out.2 H3.out.2.1⟩
        · refine (close_tf _ gb _ E { t with cg := true } H2.out.1 h2 h3).mono ?_
          rintro e W2 ⟨rfl, hb, hgw⟩
          have H3 := Lib.hid (And.intro hb (And.intro hgw (end_tf HV.out.2.2.1 HV.out.2.2.2.1 h2 h3)))
          clear hb hgw h2 h3
          go_wp2_with fail
          go_ret
          exact ⟨_, rfl, stp_of HV.out.2.2.2.2.1 HV.out.2.2.2.2.2.1 H3.out.2.2, H3.out.1, gtr H2.out.2 H3.out.2.1⟩
        · refine (close_tt _ gb _ E { t with cg := true } H2.out.1 h2 h3 HV.out.2.2.2.1.2.2.2.2.2.2 HV.out.2.2.2.1.2.2.2.2.2.1).mono ?_
          rintro e W2 ⟨rfl, hb, hgw⟩
          have H3 := Lib.hid (And.intro hb (And.intro hgw (end_tt HV.out.2.2.1 HV.out.2.2.2.1 h2 h3)))
          clear hb hgw h2 h3
          go_wp2_with fail
          go_ret
          exact ⟨_, rfl, stp_of HV.out.2.2.2.2.1 HV.out.2.2.2.2.2.1 H3.out.2.2, H3.out.1, gtr H2.out.2 H3.out.2.1⟩
      · rw [hcg] at c17
        clear hcg
        have hB2 := HV.out.1.set_ 17 (.bool true)
        have hg2 := gtr HV.out.2.1 (gset wr gb 17 (.bool true))
        have H2 := Lib.hid (And.intro hB2 hg2)
        clear hB2 hg2
        go_wp2_with fail
        cases h2 : t.v2 <;> cases h3 : t.v3
        · refine (close_ff _ gb _ E { t with cg := true } H2.out.1 h2 h3).mono ?_
          rintro e W2 ⟨rfl, hb, hgw⟩
          have H3 := Lib.hid (And.intro hb (And.intro hgw (end_ff HV.out.2.2.1 HV.out.2.2.2.1 h2 h3)))
          clear hb hgw h2 h3
          go_wp2_with fail
          go_ret
          exact ⟨_, rfl, stp_of HV.out.2.2.2.2.1 HV.out.2.2.2.2.2.1 H3.out.2.2, H3.out.1, gtr H2.out.2 H3.out.2.1⟩
        · refine (close_ft _ gb _ E { t with cg := true } H2.out.1 h2 h3).mono ?_
          rintro e W2 ⟨rfl, hb, hgw⟩
          have H3 := Lib.hid (And.intro hb (And.intro hgw (end_ft HV.out.2.2.1 HV.out.2.2.2.1 h2 h3)))
          clear hb hgw h2 h3
          go_wp2_with fail
          go_ret
          exact ⟨_, rfl, stp_of HV.out.2.2.2.2.1 HV.out.2.2.2.2.2.1 H3.out.2.2, H3.out.1, gtr H2.out.2 H3.out.2.1⟩
        · refine (close_tf _ gb _ E { t with cg := true } H2.out.1 h2 h3).mono ?_
          rintro e W2 ⟨rfl, hb, hgw⟩
          have H3 := Lib.hid (And.intro hb (And.intro hgw (end_tf HV.out.2.2.1 HV.out.2.2.2.1 h2 h3)))
          clear hb hgw h2 h3
          go_wp2_with fail
          go_ret
          exact ⟨_, rfl, stp_of HV.out.2.2.2.2.1 HV.out.2.2.2.2.2.1 H3.out.2.2, H3.out.1, gtr H2.out.2 H3.out.2.1⟩
        · refine (close_tt _ gb _ E { t with cg := true } H2.out.1 h2 h3 HV.out.2.2.2.1.2.2.2.2.2.2 HV.out.2.2.2.1.2.2.2.2.2.1).mono ?_
          rintro e W2 ⟨rfl, hb, hgw⟩
          have H3 := Lib.hid (And.intro hb (And.intro hgw (end_tt HV.out.2.2.1 HV.out.2.2.2.1 h2 h3)))
          clear hb hgw h2 h3
          go_wp2_with fail
          go_ret
          exact ⟨_, rfl, stp_of HV.out.2.2.2.2.1 HV.out.2.2.2.2.2.1 H3.out.2.2, H3.out.1, gtr H2.out.2 H3.out.2.1⟩
    · obtain ⟨FL, RP, FI, M, N, hf, hq, hq2, hon, hrb, hp, hc2⟩ := core_next HV.out.2.2.1 HA.out.2.2.1
      have hcg : t.cg = false := by
        cases h : t.cg
        · rfl
        · exact absurd (HV.out.2.2.2.1.2.1 h) (by simp)
      have hbd : Bp (pt d) := HV.out.2.2.1.2.2.2 d (by simp)
      rw [hcg] at c17
      have HN := Lib.hid (next_any wr gb g off n cp E t bs FL RP FI d.1 M d.2.1 N HV.out.1 hne HV.out.2.2.2.2.2.2 HA.out.2.1 hcp hn2 hp hrb hf hq hq2)
      have HC := Lib.hid (And.intro hc2 (And.intro hon hbd))
      clear hf hq hq2 hon hrb hp hc2 hcg hbd
      go_wp2_with fail
      refine HN.out.mono ?_
      rintro e W1 ⟨rfl, hB1, hg1⟩
      have hB1 : Blk gb IT ((nx t FL RP FI M N d).cs (.slice (some ⟨g, off, none⟩) n cp) E) W1 := hB1
      clear c18 c17 cf HN
      have wx : IntKind.i32.wrap d.1 = d.1 := IntWalk.i32_in _ (by have := HC.out.2.2.1; simp only [pt] at this; omega)
      have wy : IntKind.i32.wrap d.2.1 = d.2.1 := IntWalk.i32_in _ (by have := HC.out.2.2.2; simp only [pt] at this; omega)
      have H1 := Lib.hid (And.intro hB1 (gtr HV.out.2.1 hg1))
      clear hB1 hg1
      go_wp2_with fail
      refine Tail.start (S := (fun w' => Blk gb IT ((nx t FL RP FI M N d).cs (.slice (some ⟨g, off, none⟩) n cp) E) w')) (tl := [12]) (by kernel_rfl) H1.out.1 (fun hHeld => ?_)
      refine Tail.take (i := 0) (v := ?vq1) rfl (by kernel_rfl) (by kernel_rfl) (by kernel_rfl) (by kernel_rfl) (by kernel_rfl) (fun _ _ _ h => h) (Or.inl ⟨by rfl, ?hyq1⟩) (by assumption) ?restq1
      case hyq1 => (intro w1 hS; go_simp <;> with_reducible rfl)
      try simp only [Act.put, List.getElem_toArray, List.getElem_cons_zero, List.getElem_cons_succ, List.setIfInBounds_toArray, List.set_cons_zero, List.set_cons_succ]
      refine Tail.take (i := 1) (v := ?vq2) rfl (by kernel_rfl) (by kernel_rfl) (by kernel_rfl) (by kernel_rfl) (by kernel_rfl) (fun _ _ _ h => h) (Or.inl ⟨by rfl, ?hyq2⟩) (by assumption) ?restq2
      case hyq2 => (intro w1 hS; go_simp <;> with_reducible rfl)
      try simp only [Act.put, List.getElem_toArray, List.getElem_cons_zero, List.getElem_cons_succ, List.setIfInBounds_toArray, List.set_cons_zero, List.set_cons_succ]
      refine Tail.take (i := 2) (v := ?vq3) rfl (by kernel_rfl) (by kernel_rfl) (by kernel_rfl) (by kernel_rfl) (by kernel_rfl) (fun _ _ _ h => h) (Or.inl ⟨by rfl, ?hyq3⟩) (by assumption) ?restq3
      case hyq3 => (intro w1 hS; go_simp <;> with_reducible rfl)
      try simp only [Act.put, List.getElem_toArray, List.getElem_cons_zero, List.getElem_cons_succ, List.setIfInBounds_toArray, List.set_cons_zero, List.set_cons_succ]
      refine Tail.take (i := 3) (v := ?vq4) rfl (by kernel_rfl) (by kernel_rfl) (by kernel_rfl) (by kernel_rfl) (by kernel_rfl) (fun _ _ _ h => h) (Or.inl ⟨by rfl, ?hyq4⟩) (by assumption) ?restq4
      case hyq4 => (intro w1 hS; have k := hS.cell (i := 12) (u := .int .i16 d.1) rfl; go_simp <;> with_reducible rfl)
      try simp only [Act.put, List.getElem_toArray, List.getElem_cons_zero, List.getElem_cons_succ, List.setIfInBounds_toArray, List.set_cons_zero, List.set_cons_succ]
      refine Tail.take (i := 4) (v := ?vq5) rfl (by kernel_rfl) (by kernel_rfl) (by kernel_rfl) (by kernel_rfl) (by kernel_rfl) (fun _ _ _ h => h) (Or.inl ⟨by rfl, ?hyq5⟩) (by assumption) ?restq5
      case hyq5 => (intro w1 hS; go_simp <;> with_reducible rfl)
      try simp only [Act.put, List.getElem_toArray, List.getElem_cons_zero, List.getElem_cons_succ, List.setIfInBounds_toArray, List.set_cons_zero, List.set_cons_succ]
      refine Tail.take (i := 5) (v := ?vq6) rfl (by kernel_rfl) (by kernel_rfl) (by kernel_rfl) (by kernel_rfl) (by kernel_rfl) (fun _ _ _ h => h) (Or.inl ⟨by rfl, ?hyq6⟩) (by assumption) ?restq6
      case hyq6 => (intro w1 hS; go_simp <;> with_reducible rfl)
      try simp only [Act.put, List.getElem_toArray, List.getElem_cons_zero, List.getElem_cons_succ, List.setIfInBounds_toArray, List.set_cons_zero, List.set_cons_succ]
      refine Tail.take (i := 6) (v := ?vq7) rfl (by kernel_rfl) (by kernel_rfl) (by kernel_rfl) (by kernel_rfl) (by kernel_rfl) (fun _ _ _ h => h) (Or.inl ⟨by rfl, ?hyq7⟩) (by assumption) ?restq7
      case hyq7 => (intro w1 hS; go_simp <;> with_reducible rfl)
      try simp only [Act.put, List.getElem_toArray, List.getElem_cons_zero, List.getElem_cons_succ, List.setIfInBounds_toArray, List.set_cons_zero, List.set_cons_succ]
      refine Tail.take (i := 7) (v := ?vq8) rfl (by kernel_rfl) (by kernel_rfl) (by kernel_rfl) (by kernel_rfl) (by kernel_rfl) (fun _ _ _ h => h) (Or.inl ⟨by rfl, ?hyq8⟩) (by assumption) ?restq8
      case hyq8 => (intro w1 hS; go_simp <;> with_reducible rfl)
      try simp only [Act.put, List.getElem_toArray, List.getElem_cons_zero, List.getElem_cons_succ, List.setIfInBounds_toArray, List.set_cons_zero, List.set_cons_succ]
      refine Tail.take (i := 8) (v := ?vq9) rfl (by kernel_rfl) (by kernel_rfl) (by kernel_rfl) (by kernel_rfl) (by kernel_rfl) (fun _ _ _ h => h) (Or.inl ⟨by rfl, ?hyq9⟩) (by assumption) ?restq9
      case hyq9 => (intro w1 hS; have k := hS.cell (i := 13) (u := .int .i16 d.2.1) rfl; go_simp <;> with_reducible rfl)
      try simp only [Act.put, List.getElem_toArray, List.getElem_cons_zero, List.getElem_cons_succ, List.setIfInBounds_toArray, List.set_cons_zero, List.set_cons_succ]
      refine Tail.take (i := 9) (v := ?vq10) rfl (by kernel_rfl) (by kernel_rfl) (by kernel_rfl) (by kernel_rfl) (by kernel_rfl) (fun _ _ _ h => h) (Or.inl ⟨by rfl, ?hyq10⟩) (by assumption) ?restq10
      case hyq10 => (intro w1 hS; go_simp <;> with_reducible rfl)
      try simp only [Act.put, List.getElem_toArray, List.getElem_cons_zero, List.getElem_cons_succ, List.setIfInBounds_toArray, List.set_cons_zero, List.set_cons_succ]
      refine Tail.take (i := 10) (v := ?vq11) rfl (by kernel_rfl) (by kernel_rfl) (by kernel_rfl) (by kernel_rfl) (by kernel_rfl) (fun _ _ _ h => h) (Or.inl ⟨by rfl, ?hyq11⟩) (by assumption) ?restq11
      case hyq11 => (intro w1 hS; go_simp <;> with_reducible rfl)
      try simp only [Act.put, List.getElem_toArray, List.getElem_cons_zero, List.getElem_cons_succ, List.setIfInBounds_toArray, List.set_cons_zero, List.set_cons_succ]
      refine Tail.ready (rs := [11]) (by kernel_rfl) (by simp) (Tail.AllReadyL.cons rfl (fun K hK => ?_) Tail.AllReadyL.nil)
      go_simp
      refine hK.out _ _ (hHeld.keep (bel_made _ _ _)) (fun hHeld => ?_)
      clear hK K
      try simp only [Act.put, List.getElem_toArray, List.getElem_cons_zero, List.getElem_cons_succ, List.setIfInBounds_toArray, List.set_cons_zero, List.set_cons_succ]
      refine Tail.ready (rs := [12]) (by kernel_rfl) (by simp) (Tail.AllReadyL.last rfl (by rfl) (fun K hK => ?_) Tail.AllReadyL.nil)
      clear hHeld
      go_simp
      refine hK.out _ _ ?_
      clear hK K
      try simp only [Act.put, List.getElem_toArray, List.getElem_cons_zero, List.getElem_cons_succ, List.setIfInBounds_toArray, List.set_cons_zero, List.set_cons_succ]
      refine Tail.done (by kernel_rfl) ?_ _
      go_upto_region 7 with (fail)
      have hbm := bel_made W1 #[.int .i32 d.1, .int .i32 d.2.1] 142
      have hPm := Blk.new_ W1 #[.int .i32 d.1, .int .i32 d.2.1] 142
      have hneq : gb ≠ W1.heap.size := by have := H1.out.1.lt; omega
      obtain ⟨Y, hY⟩ : ∃ Y, Y = (W1.alloc (.cells #[.int .i32 d.1, .int .i32 d.2.1] 142)).drew := ⟨_, rfl⟩
      have hBY : Blk gb IT ((nx t FL RP FI M N d).cs (.slice (some ⟨g, off, none⟩) n cp) E) Y := by rw [hY]; exact H1.out.1.keep (Below.drew hbm)
      have hPY : Blk W1.heap.size 142 [.int .i32 d.1, .int .i32 d.2.1] Y := by rw [hY]; exact hPm
      have hgY : w.grownBy Y (some gb) := by rw [hY]; exact gdrew (gtr H1.out.2 (gbel hbm _))
      rw [← hY]
      obtain ⟨pb, hpb⟩ : ∃ b, b = W1.heap.size := ⟨_, rfl⟩
      rw [← hpb] at hPY hneq
      rw [← hpb]
      clear hY hbm hPm hpb
      have p0 := hPY.cell (i := 0) rfl
      have p1 := hPY.cell (i := 1) rfl
      have pf := hPY.frozen
      have kf := hBY.frozen
      have k14 : Y.cell? ⟨gb, 14, none⟩ = some (.bool d.2.2) := hBY.cell (i := 14) (by rw [← HC.out.2.1]; rfl)
      have k19 := hBY.cell (i := 19) rfl
      have k20 := hBY.cell (i := 20) rfl
      have k21 := hBY.cell (i := 21) rfl
      have k22 := hBY.cell (i := 22) rfl
      have k23 := hBY.cell (i := 23) rfl
      have k24 := hBY.cell (i := 24) rfl
      have k25 := hBY.cell (i := 25) rfl
      have k26 := hBY.cell (i := 26) rfl
      have k27 := hBY.cell (i := 27) rfl
      have k28 := hBY.cell (i := 28) rfl
      have k29 := hBY.cell (i := 29) rfl
      have k30 := hBY.cell (i := 30) rfl
      have k31 := hBY.cell (i := 31) rfl
      have k32 := hBY.cell (i := 32) rfl
      have k33 := hBY.cell (i := 33) rfl
      have k34 := hBY.cell (i := 34) rfl
      have H3 := Lib.hid (And.intro hBY (And.intro hPY hgY))
      clear hBY hPY hgY
      cases ho : d.2.2
      · cases h1 : t.v1
        · cases h2 : t.v2
          ·
            rw [ho] at k14
            have hv1 : (nx t FL RP FI M N d).v1 = false := h1
            rw [hv1] at k19
            clear hv1
            have hv2 : (nx t FL RP FI M N d).v2 = false := h2
            rw [hv2] at k20
            clear hv2
            have HW := Lib.hid (And.intro ((((H3.out.1).set_ 24 (.int .i32 d.1)).set_ 25 (.int .i32 d.2.1)).set_ 20 (.bool true)) (gtr (gtr (gtr (H3.out.2.2) (gset _ gb 24 (.int .i32 d.1))) (gset _ gb 25 (.int .i32 d.2.1))) (gset _ gb 20 (.bool true))))
            have HP := Lib.hid (off1 HC.out.1 HV.out.2.2.2.1 HC.out.2.2 ho h1 h2)
            clear ho h1 h2
            go_wp2_with fail
            go_roundg cr'.length
            case rel => exact ⟨{ nx t FL RP FI M N d with b := pt d, v2 := true }, cr', rfl, HW.out.1, HW.out.2, HP.out.2.1, HP.out.2.2.1, HV.out.2.2.2.2.1.trans HP.out.1, same_of HV.out.2.2.2.2.2.1 HP.out.2.2.2⟩
            case measure => simp
          ·
            rw [ho] at k14
            have hv1 : (nx t FL RP FI M N d).v1 = false := h1
            rw [hv1] at k19
            clear hv1
            have hv2 : (nx t FL RP FI M N d).v2 = true := h2
            rw [hv2] at k20
            clear hv2
            have HW := H3
            have HP := Lib.hid (off2 HC.out.1 HV.out.2.2.2.1 HC.out.2.2 ho h1 h2)
            clear ho h1 h2
            go_wp2_with fail
            refine Tail.start (S := (fun w' => Blk gb IT (({ nx t FL RP FI M N d with p := t.p + 1 } : It).cs (.slice (some ⟨g, off, none⟩) n cp) E) w' ∧ Blk pb 142 [.int .i32 d.1, .int .i32 d.2.1] w' ∧ w.grownBy w' (some gb))) (tl := [9]) (by kernel_rfl) ⟨HW.out.1, HW.out.2.1, gdrew HW.out.2.2⟩ (fun hHeld => ?_)
            refine Tail.take (i := 0) (v := ?vq12) rfl (by kernel_rfl) (by kernel_rfl) (by kernel_rfl) (by kernel_rfl) (by kernel_rfl) (fun _ _ _ h => h) (Or.inl ⟨by rfl, ?hyq12⟩) (by assumption) ?restq12
            case hyq12 => (intro w1 hS; go_simp <;> with_reducible rfl)
            try simp only [Act.put, List.getElem_toArray, List.getElem_cons_zero, List.getElem_cons_succ, List.setIfInBounds_toArray, List.set_cons_zero, List.set_cons_succ]
            refine Tail.take (i := 1) (v := ?vq13) rfl (by kernel_rfl) (by kernel_rfl) (by kernel_rfl) (by kernel_rfl) (by kernel_rfl) (fun _ _ _ h => h) (Or.inl ⟨by rfl, ?hyq13⟩) (by assumption) ?restq13
            case hyq13 => (intro w1 hS; go_simp <;> with_reducible rfl)
            try simp only [Act.put, List.getElem_toArray, List.getElem_cons_zero, List.getElem_cons_succ, List.setIfInBounds_toArray, List.set_cons_zero, List.set_cons_succ]
            refine Tail.take (i := 2) (v := ?vq14) rfl (by kernel_rfl) (by kernel_rfl) (by kernel_rfl) (by kernel_rfl) (by kernel_rfl) (fun _ _ _ h => h) (Or.inl ⟨by rfl, ?hyq14⟩) (by assumption) ?restq14
            case hyq14 => (intro w1 hS; go_simp <;> with_reducible rfl)
            try simp only [Act.put, List.getElem_toArray, List.getElem_cons_zero, List.getElem_cons_succ, List.setIfInBounds_toArray, List.set_cons_zero, List.set_cons_succ]
            refine Tail.take (i := 3) (v := ?vq15) rfl (by kernel_rfl) (by kernel_rfl) (by kernel_rfl) (by kernel_rfl) (by kernel_rfl) (fun _ _ _ h => h) (Or.inl ⟨by rfl, ?hyq15⟩) (by assumption) ?restq15
            case hyq15 => (intro w1 hS; go_simp <;> with_reducible rfl)
            try simp only [Act.put, List.getElem_toArray, List.getElem_cons_zero, List.getElem_cons_succ, List.setIfInBounds_toArray, List.set_cons_zero, List.set_cons_succ]
            refine Tail.take (i := 4) (v := ?vq16) rfl (by kernel_rfl) (by kernel_rfl) (by kernel_rfl) (by kernel_rfl) (by kernel_rfl) (fun _ _ _ h => h) (Or.inl ⟨by rfl, ?hyq16⟩) (by assumption) ?restq16
            case hyq16 => (intro w1 hS; have k := hS.1.cell (i := 24) rfl; have k2 := hS.1.cell (i := 25) rfl; go_simp <;> with_reducible rfl)
            try simp only [Act.put, List.getElem_toArray, List.getElem_cons_zero, List.getElem_cons_succ, List.setIfInBounds_toArray, List.set_cons_zero, List.set_cons_succ]
            refine Tail.take (i := 5) (v := ?vq17) rfl (by kernel_rfl) (by kernel_rfl) (by kernel_rfl) (by kernel_rfl) (by kernel_rfl) (fun _ _ _ h => h) (Or.inl ⟨by rfl, ?hyq17⟩) (by assumption) ?restq17
            case hyq17 => (intro w1 hS; have k := hS.2.1.cell (i := 0) rfl; have k2 := hS.2.1.cell (i := 1) rfl; go_simp <;> with_reducible rfl)
            try simp only [Act.put, List.getElem_toArray, List.getElem_cons_zero, List.getElem_cons_succ, List.setIfInBounds_toArray, List.set_cons_zero, List.set_cons_succ]
            refine Tail.ready (rs := [6]) (by kernel_rfl) (by simp) (Tail.AllReadyL.cons rfl (fun K hK => ?_) Tail.AllReadyL.nil)
            go_simp
            refine (mid_bel t.b (pt d) _ HV.out.2.2.2.1.2.2.2.2.2.1 HC.out.2.2).mono ?_
            rintro e W2 ⟨rfl, hb⟩
            refine hK.out _ _ ⟨hHeld.1.keep hb, hHeld.2.1.keep hb, gtr hHeld.2.2 (gbel hb _)⟩ (fun hHeld => ?_)
            clear hb
            clear hK K
            try simp only [Act.put, List.getElem_toArray, List.getElem_cons_zero, List.getElem_cons_succ, List.setIfInBounds_toArray, List.set_cons_zero, List.set_cons_succ]
            refine Tail.ready (rs := [7]) (by kernel_rfl) (by simp) (Tail.AllReadyL.cons rfl (fun K hK => ?_) Tail.AllReadyL.nil)
            go_simp
            refine hK.out _ _ hHeld (fun hHeld => ?_)
            clear hK K
            try simp only [Act.put, List.getElem_toArray, List.getElem_cons_zero, List.getElem_cons_succ, List.setIfInBounds_toArray, List.set_cons_zero, List.set_cons_succ]
            refine Tail.ready (rs := [8]) (by kernel_rfl) (by simp) (Tail.AllReadyL.cons rfl (fun K hK => ?_) Tail.AllReadyL.nil)
            go_simp
            refine hK.out _ _ hHeld (fun hHeld => ?_)
            clear hK K
            try simp only [Act.put, List.getElem_toArray, List.getElem_cons_zero, List.getElem_cons_succ, List.setIfInBounds_toArray, List.set_cons_zero, List.set_cons_succ]
            refine Tail.ready (rs := [9]) (by kernel_rfl) (by simp) (Tail.AllReadyL.last rfl (by rfl) (fun K hK => ?_) Tail.AllReadyL.nil)
            clear p0 p1 pf kf k14 k19 k20 k21 k22 k23 k24 k25 k26 k27 k28 k29 k30 k31 k32 k33 k34
            have kf := hHeld.1.frozen
            have k22 := hHeld.1.cell (i := 22) rfl
            have k23 := hHeld.1.cell (i := 23) rfl
            have k19 := hHeld.1.cell (i := 19) rfl
            have k21 := hHeld.1.cell (i := 21) rfl
            have k26 := hHeld.1.cell (i := 26) rfl
            have k27 := hHeld.1.cell (i := 27) rfl
            have k28 := hHeld.1.cell (i := 28) rfl
            have k29 := hHeld.1.cell (i := 29) rfl
            have k30 := hHeld.1.cell (i := 30) rfl
            have k31 := hHeld.1.cell (i := 31) rfl
            have k32 := hHeld.1.cell (i := 32) rfl
            have k33 := hHeld.1.cell (i := 33) rfl
            have k34 := hHeld.1.cell (i := 34) rfl
            have p0 := hHeld.2.1.cell (i := 0) rfl
            have p1 := hHeld.2.1.cell (i := 1) rfl
            have hneq2 := hneq
            have b2 := ((((((hHeld.1.set_ 22 (.int .i32 (mid t.b (pt d)).1)).set_ 23 (.int .i32 (mid t.b (pt d)).2)).set_ 19 (.bool true)).set_ 26 (.int .i32 d.1)).set_ 27 (.int .i32 d.2.1)).set_ 21 (.bool true))
            have g2 := gtr (gtr (gtr (gtr (gtr (gtr hHeld.2.2 (gset _ gb 22 (.int .i32 (mid t.b (pt d)).1))) (gset _ gb 23 (.int .i32 (mid t.b (pt d)).2))) (gset _ gb 19 (.bool true))) (gset _ gb 26 (.int .i32 d.1))) (gset _ gb 27 (.int .i32 d.2.1))) (gset _ gb 21 (.bool true))
            have HW := Lib.hid (seg_set (t := { nx t FL RP FI M N d with a := mid t.b (pt d), v1 := true, e := pt d, v3 := true }) b2 g2 0 (mid t.b (pt d)) (0, 0) (0, 0))
            clear hHeld b2 g2
            go_simp
            refine hK.out _ _ ?_
            clear hK K
            try simp only [Act.put, List.getElem_toArray, List.getElem_cons_zero, List.getElem_cons_succ, List.setIfInBounds_toArray, List.set_cons_zero, List.set_cons_succ]
            refine Tail.done (by kernel_rfl) ?_ _
            go_wp2_with fail
            go_ret
            exact ⟨_, rfl, stp_of HV.out.2.2.2.2.1 HV.out.2.2.2.2.2.1 HP.out, HW.out.1, HW.out.2⟩
        · cases h3 : t.v3
          ·
            rw [ho] at k14
            have hv1 : (nx t FL RP FI M N d).v1 = true := h1
            rw [hv1] at k19
            clear hv1
            have hv3 : (nx t FL RP FI M N d).v3 = false := h3
            rw [hv3] at k21
            clear hv3
            have HW := Lib.hid (And.intro ((((H3.out.1).set_ 26 (.int .i32 d.1)).set_ 27 (.int .i32 d.2.1)).set_ 21 (.bool true)) (gtr (gtr (gtr (H3.out.2.2) (gset _ gb 26 (.int .i32 d.1))) (gset _ gb 27 (.int .i32 d.2.1))) (gset _ gb 21 (.bool true))))
            have HP := Lib.hid (off3 HC.out.1 HV.out.2.2.2.1 HC.out.2.2 ho h1 h3)
            clear ho h1 h3
            go_wp2_with fail
            go_roundg cr'.length
            case rel => exact ⟨{ nx t FL RP FI M N d with e := pt d, v3 := true }, cr', rfl, HW.out.1, HW.out.2, HP.out.2.1, HP.out.2.2.1, HV.out.2.2.2.2.1.trans HP.out.1, same_of HV.out.2.2.2.2.2.1 HP.out.2.2.2⟩
            case measure => simp
          ·
            rw [ho] at k14
            have hv1 : (nx t FL RP FI M N d).v1 = true := h1
            rw [hv1] at k19
            clear hv1
            have hv3 : (nx t FL RP FI M N d).v3 = true := h3
            rw [hv3] at k21
            clear hv3
            have HW := H3
            have HP := Lib.hid (off4 HC.out.1 HV.out.2.2.2.1 HC.out.2.2 ho h1 h3)
            clear ho h1 h3
            go_wp2_with fail
            refine Tail.start (S := (fun w' => Blk gb IT (({ nx t FL RP FI M N d with p := t.p + 1 } : It).cs (.slice (some ⟨g, off, none⟩) n cp) E) w' ∧ Blk pb 142 [.int .i32 d.1, .int .i32 d.2.1] w' ∧ w.grownBy w' (some gb))) (tl := [15]) (by kernel_rfl) ⟨HW.out.1, HW.out.2.1, gdrew HW.out.2.2⟩ (fun hHeld => ?_)
            refine Tail.take (i := 0) (v := ?vq18) rfl (by kernel_rfl) (by kernel_rfl) (by kernel_rfl) (by kernel_rfl) (by kernel_rfl) (fun _ _ _ h => h) (Or.inl ⟨by rfl, ?hyq18⟩) (by assumption) ?restq18
            case hyq18 => (intro w1 hS; go_simp <;> with_reducible rfl)
            try simp only [Act.put, List.getElem_toArray, List.getElem_cons_zero, List.getElem_cons_succ, List.setIfInBounds_toArray, List.set_cons_zero, List.set_cons_succ]
            refine Tail.take (i := 1) (v := ?vq19) rfl (by kernel_rfl) (by kernel_rfl) (by kernel_rfl) (by kernel_rfl) (by kernel_rfl) (fun _ _ _ h => h) (Or.inl ⟨by rfl, ?hyq19⟩) (by assumption) ?restq19
            case hyq19 => (intro w1 hS; go_simp <;> with_reducible rfl)
            try simp only [Act.put, List.getElem_toArray, List.getElem_cons_zero, List.getElem_cons_succ, List.setIfInBounds_toArray, List.set_cons_zero, List.set_cons_succ]
            refine Tail.take (i := 2) (v := ?vq20) rfl (by kernel_rfl) (by kernel_rfl) (by kernel_rfl) (by kernel_rfl) (by kernel_rfl) (fun _ _ _ h => h) (Or.inl ⟨by rfl, ?hyq20⟩) (by assumption) ?restq20
            case hyq20 => (intro w1 hS; go_simp <;> with_reducible rfl)
            try simp only [Act.put, List.getElem_toArray, List.getElem_cons_zero, List.getElem_cons_succ, List.setIfInBounds_toArray, List.set_cons_zero, List.set_cons_succ]
            refine Tail.take (i := 3) (v := ?vq21) rfl (by kernel_rfl) (by kernel_rfl) (by kernel_rfl) (by kernel_rfl) (by kernel_rfl) (fun _ _ _ h => h) (Or.inl ⟨by rfl, ?hyq21⟩) (by assumption) ?restq21
            case hyq21 => (intro w1 hS; go_simp <;> with_reducible rfl)
            try simp only [Act.put, List.getElem_toArray, List.getElem_cons_zero, List.getElem_cons_succ, List.setIfInBounds_toArray, List.set_cons_zero, List.set_cons_succ]
            refine Tail.take (i := 4) (v := ?vq22) rfl (by kernel_rfl) (by kernel_rfl) (by kernel_rfl) (by kernel_rfl) (by kernel_rfl) (fun _ _ _ h => h) (Or.inl ⟨by rfl, ?hyq22⟩) (by assumption) ?restq22
            case hyq22 => (intro w1 hS; have k := hS.1.cell (i := 26) rfl; have k2 := hS.1.cell (i := 27) rfl; go_simp <;> with_reducible rfl)
            try simp only [Act.put, List.getElem_toArray, List.getElem_cons_zero, List.getElem_cons_succ, List.setIfInBounds_toArray, List.set_cons_zero, List.set_cons_succ]
            refine Tail.take (i := 5) (v := ?vq23) rfl (by kernel_rfl) (by kernel_rfl) (by kernel_rfl) (by kernel_rfl) (by kernel_rfl) (fun _ _ _ h => h) (Or.inl ⟨by rfl, ?hyq23⟩) (by assumption) ?restq23
            case hyq23 => (intro w1 hS; go_simp <;> with_reducible rfl)
            try simp only [Act.put, List.getElem_toArray, List.getElem_cons_zero, List.getElem_cons_succ, List.setIfInBounds_toArray, List.set_cons_zero, List.set_cons_succ]
            refine Tail.take (i := 6) (v := ?vq24) rfl (by kernel_rfl) (by kernel_rfl) (by kernel_rfl) (by kernel_rfl) (by kernel_rfl) (fun _ _ _ h => h) (Or.inl ⟨by rfl, ?hyq24⟩) (by assumption) ?restq24
            case hyq24 => (intro w1 hS; go_simp <;> with_reducible rfl)
            try simp only [Act.put, List.getElem_toArray, List.getElem_cons_zero, List.getElem_cons_succ, List.setIfInBounds_toArray, List.set_cons_zero, List.set_cons_succ]
            refine Tail.take (i := 7) (v := ?vq25) rfl (by kernel_rfl) (by kernel_rfl) (by kernel_rfl) (by kernel_rfl) (by kernel_rfl) (fun _ _ _ h => h) (Or.inl ⟨by rfl, ?hyq25⟩) (by assumption) ?restq25
            case hyq25 => (intro w1 hS; go_simp <;> with_reducible rfl)
            try simp only [Act.put, List.getElem_toArray, List.getElem_cons_zero, List.getElem_cons_succ, List.setIfInBounds_toArray, List.set_cons_zero, List.set_cons_succ]
            refine Tail.take (i := 8) (v := ?vq26) rfl (by kernel_rfl) (by kernel_rfl) (by kernel_rfl) (by kernel_rfl) (by kernel_rfl) (fun _ _ _ h => h) (Or.inl ⟨by rfl, ?hyq26⟩) (by assumption) ?restq26
            case hyq26 => (intro w1 hS; have k := hS.1.cell (i := 26) rfl; have k2 := hS.1.cell (i := 27) rfl; go_simp <;> with_reducible rfl)
            try simp only [Act.put, List.getElem_toArray, List.getElem_cons_zero, List.getElem_cons_succ, List.setIfInBounds_toArray, List.set_cons_zero, List.set_cons_succ]
            refine Tail.take (i := 9) (v := ?vq27) rfl (by kernel_rfl) (by kernel_rfl) (by kernel_rfl) (by kernel_rfl) (by kernel_rfl) (fun _ _ _ h => h) (Or.inl ⟨by rfl, ?hyq27⟩) (by assumption) ?restq27
            case hyq27 => (intro w1 hS; have k := hS.2.1.cell (i := 0) rfl; have k2 := hS.2.1.cell (i := 1) rfl; go_simp <;> with_reducible rfl)
            try simp only [Act.put, List.getElem_toArray, List.getElem_cons_zero, List.getElem_cons_succ, List.setIfInBounds_toArray, List.set_cons_zero, List.set_cons_succ]
            refine Tail.ready (rs := [10]) (by kernel_rfl) (by simp) (Tail.AllReadyL.cons rfl (fun K hK => ?_) Tail.AllReadyL.nil)
            go_simp
            refine (mid_bel t.e (pt d) _ HV.out.2.2.2.1.2.2.2.2.2.2 HC.out.2.2).mono ?_
            rintro e W2 ⟨rfl, hb⟩
            refine hK.out _ _ ⟨hHeld.1.keep hb, hHeld.2.1.keep hb, gtr hHeld.2.2 (gbel hb _)⟩ (fun hHeld => ?_)
            clear hb
            clear hK K
            try simp only [Act.put, List.getElem_toArray, List.getElem_cons_zero, List.getElem_cons_succ, List.setIfInBounds_toArray, List.set_cons_zero, List.set_cons_succ]
            refine Tail.ready (rs := [11]) (by kernel_rfl) (by simp) (Tail.AllReadyL.cons rfl (fun K hK => ?_) Tail.AllReadyL.nil)
            go_simp
            refine hK.out _ _ hHeld (fun hHeld => ?_)
            clear hK K
            try simp only [Act.put, List.getElem_toArray, List.getElem_cons_zero, List.getElem_cons_succ, List.setIfInBounds_toArray, List.set_cons_zero, List.set_cons_succ]
            refine Tail.ready (rs := [12]) (by kernel_rfl) (by simp) (Tail.AllReadyL.cons rfl (fun K hK => ?_) Tail.AllReadyL.nil)
            go_simp
            refine hK.out _ _ hHeld (fun hHeld => ?_)
            clear hK K
            try simp only [Act.put, List.getElem_toArray, List.getElem_cons_zero, List.getElem_cons_succ, List.setIfInBounds_toArray, List.set_cons_zero, List.set_cons_succ]
            refine Tail.ready (rs := [13]) (by kernel_rfl) (by simp) (Tail.AllReadyL.cons rfl (fun K hK => ?_) Tail.AllReadyL.nil)
            go_simp
            refine hK.out _ _ hHeld (fun hHeld => ?_)
            clear hK K
            try simp only [Act.put, List.getElem_toArray, List.getElem_cons_zero, List.getElem_cons_succ, List.setIfInBounds_toArray, List.set_cons_zero, List.set_cons_succ]
            refine Tail.ready (rs := [14]) (by kernel_rfl) (by simp) (Tail.AllReadyL.cons rfl (fun K hK => ?_) Tail.AllReadyL.nil)
            go_simp
            refine hK.out _ _ hHeld (fun hHeld => ?_)
            clear hK K
            try simp only [Act.put, List.getElem_toArray, List.getElem_cons_zero, List.getElem_cons_succ, List.setIfInBounds_toArray, List.set_cons_zero, List.set_cons_succ]
            refine Tail.ready (rs := [15]) (by kernel_rfl) (by simp) (Tail.AllReadyL.last rfl (by rfl) (fun K hK => ?_) Tail.AllReadyL.nil)
            clear p0 p1 pf kf k14 k19 k20 k21 k22 k23 k24 k25 k26 k27 k28 k29 k30 k31 k32 k33 k34
            have kf := hHeld.1.frozen
            have k21 := hHeld.1.cell (i := 21) rfl
            have k26 := hHeld.1.cell (i := 26) rfl
            have k27 := hHeld.1.cell (i := 27) rfl
            have k28 := hHeld.1.cell (i := 28) rfl
            have k29 := hHeld.1.cell (i := 29) rfl
            have k30 := hHeld.1.cell (i := 30) rfl
            have k31 := hHeld.1.cell (i := 31) rfl
            have k32 := hHeld.1.cell (i := 32) rfl
            have k33 := hHeld.1.cell (i := 33) rfl
            have k34 := hHeld.1.cell (i := 34) rfl
            have p0 := hHeld.2.1.cell (i := 0) rfl
            have p1 := hHeld.2.1.cell (i := 1) rfl
            have hneq2 := hneq
            have H5 := seg_set (t := nx t FL RP FI M N d) hHeld.1 hHeld.2.2 2 t.e (mid t.e (pt d)) (0, 0)
            have b2 := ((H5.1.set_ 26 (.int .i32 d.1)).set_ 27 (.int .i32 d.2.1)).set_ 21 (.bool true)
            have g2 := gtr (gtr (gtr H5.2 (gset _ gb 26 (.int .i32 d.1))) (gset _ gb 27 (.int .i32 d.2.1))) (gset _ gb 21 (.bool true))
            have HW := Lib.hid (And.intro b2 g2)
            clear hHeld H5 b2 g2
            go_simp
            refine hK.out _ _ ?_
            clear hK K
            try simp only [Act.put, List.getElem_toArray, List.getElem_cons_zero, List.getElem_cons_succ, List.setIfInBounds_toArray, List.set_cons_zero, List.set_cons_succ]
            refine Tail.done (by kernel_rfl) ?_ _
            go_wp2_with fail
            go_ret
            exact ⟨_, rfl, stp_of HV.out.2.2.2.2.1 HV.out.2.2.2.2.2.1 HP.out, HW.out.1, HW.out.2⟩
      · cases h1 : t.v1
        ·
          rw [ho] at k14
          have hv1 : (nx t FL RP FI M N d).v1 = false := h1
          rw [hv1] at k19
          clear hv1
          have HW := Lib.hid (seg_set (t := { nx t FL RP FI M N d with a := pt d, v1 := true }) ((((H3.out.1).set_ 22 (.int .i32 d.1)).set_ 23 (.int .i32 d.2.1)).set_ 19 (.bool true)) (gtr (gtr (gtr (H3.out.2.2) (gset _ gb 22 (.int .i32 d.1))) (gset _ gb 23 (.int .i32 d.2.1))) (gset _ gb 19 (.bool true))) 0 (pt d) (0, 0) (0, 0))
          have HP := Lib.hid (on1 HC.out.1 HV.out.2.2.2.1 HC.out.2.2 ho h1)
          clear ho h1
          go_wp2_with fail
          go_ret
          exact ⟨_, rfl, stp_of HV.out.2.2.2.2.1 HV.out.2.2.2.2.2.1 HP.out, HW.out.1, HW.out.2⟩
        · cases h3 : t.v3
          ·
            rw [ho] at k14
            have hv1 : (nx t FL RP FI M N d).v1 = true := h1
            rw [hv1] at k19
            clear hv1
            have hv3 : (nx t FL RP FI M N d).v3 = false := h3
            rw [hv3] at k21
            clear hv3
            have HW := Lib.hid (seg_set (t := { nx t FL RP FI M N d with p := t.p + 1 }) (H3.out.1) (H3.out.2.2) 1 (pt d) (0, 0) (0, 0))
            have HP := Lib.hid (on3 HC.out.1 HV.out.2.2.2.1 HC.out.2.2 ho h1 h3)
            clear ho h1 h3
            go_wp2_with fail
            go_ret
            exact ⟨_, rfl, stp_of HV.out.2.2.2.2.1 HV.out.2.2.2.2.2.1 HP.out, HW.out.1, HW.out.2⟩
          ·
            rw [ho] at k14
            have hv1 : (nx t FL RP FI M N d).v1 = true := h1
            rw [hv1] at k19
            clear hv1
            have hv3 : (nx t FL RP FI M N d).v3 = true := h3
            rw [hv3] at k21
            clear hv3
            have HW := H3
            have HP := Lib.hid (on4 HC.out.1 HV.out.2.2.2.1 HC.out.2.2 ho h1 h3)
            clear ho h1 h3
            go_wp2_with fail
            refine Stl.region 10 (by kernel_rfl) (by kernel_rfl) (by kernel_rfl) (fun X hX => ?_)
            have hBX : Blk gb IT ((nx t FL RP FI M N d).cs (.slice (some ⟨g, off, none⟩) n cp) E) X := by rw [← hX]; exact HW.out.1
            have hPX : Blk pb 142 [.int .i32 d.1, .int .i32 d.2.1] X := by rw [← hX]; exact HW.out.2.1
            have hgX : w.grownBy X (some gb) := by rw [← hX]; exact gdrew HW.out.2.2
            clear p0 p1 pf kf k14 k19 k20 k21 k22 k23 k24 k25 k26 k27 k28 k29 k30 k31 k32 k33 k34
            have kf := hBX.frozen
            have k21 := hBX.cell (i := 21) rfl
            have k26 := hBX.cell (i := 26) rfl
            have k27 := hBX.cell (i := 27) rfl
            have k28 := hBX.cell (i := 28) rfl
            have k29 := hBX.cell (i := 29) rfl
            have k30 := hBX.cell (i := 30) rfl
            have k31 := hBX.cell (i := 31) rfl
            have k32 := hBX.cell (i := 32) rfl
            have k33 := hBX.cell (i := 33) rfl
            have k34 := hBX.cell (i := 34) rfl
            have p0 := hPX.cell (i := 0) rfl
            have p1 := hPX.cell (i := 1) rfl
            have H5 := seg_set (t := nx t FL RP FI M N d) hBX hgX 2 t.e (pt d) (0, 0)
            have b2 := H5.1.set_ 21 (.bool false)
            have g2 := gtr H5.2 (gset _ gb 21 (.bool false))
            have HW := Lib.hid (And.intro b2 g2)
            clear hX hBX hPX hgX H5 b2 g2
            simp only [List.take_succ_cons, List.take_zero, List.drop_succ_cons, List.drop_zero]
            repeat (refine Stl.step (fun K hK => ?_); go_simp; refine hK _ ?_; clear hK K)
            refine Stl.nil ?_
            go_wp2_with fail
            go_ret
            exact ⟨_, rfl, stp_of HV.out.2.2.2.2.1 HV.out.2.2.2.2.2.1 HP.out, HW.out.1, HW.out.2⟩
end Go.Proofs.YtdeaodgcdacleaaDoor.ItG
