/- The making of a font: advances, bearings, titles. -/
import Derived.Test.YthcdolgmifkfdaaDoorCadS
import Derived.Test.YthcdolgmifkfdaaDoorGate
import Derived.Deep.RegionHeld3
import Derived.Deep.CutBlock
import Derived.Deep.QuietTactic
import Derived.BigQuiet
namespace Go.Proofs.YthcdolgmifkfdaaDoor.CadK
open Go.ChangeShapes Go.WideShapes Go.ChangeAt Go.RowKit
open Lst Mem RowG GlyM GlyN GlyO MadN CadL CadF
set_option linter.unusedSimpArgs false
set_option linter.unusedVariables false
variable {LV : Value} {fm : Int} {ps : List Pr}
open CadG CadH CadI CadJ CadP CadQ CadR CadS
set_option maxHeartbeats 60000000 in
set_option maxRecDepth 4000 in
theorem r5 (f : Int) (wa N : Nat) (GA A : Option Addr) (gc m cap mb : Nat) (ms : List Int) (Gs : List Gl) (cs : List Value) (w W : World) (a : Act) (c : Code) (hc : c = dropC 5 body) (ha : Fr LV f w.heap.size mb a) (hI : Inv fm [] w wa N GA gc Gs A m cap ms mb cs W) (hf : 0 ≤ f ∧ f ≤ 4294967295) (hLt : Ltr w LV) (h2 : cs[2]? = some (.slice none 0 0)) (h3 : cs[3]? = some (.slice none 0 0)) (h26 : cs[26]? = some (.slice none 0 0)) (hv : cs[8]? = some (.slice none 0 0)) (h9 : cs[9]? = some (.slice none 0 0)) : Code.wp Tryd.prog c (EndsM fm w wa) a W := by
  rw [hc]
  conv in (dropC _ _) => whnf
  obtain ⟨S, he, hS⟩ := ha.open_
  subst he
  clear ha hc hS
  obtain ⟨i2, hi2, iz2, iy2, ib2⟩ := info_parts iinfo
  obtain ⟨i3, hi3, iz3, iy3, ib3⟩ := info_parts sinfo
  have hN := hI.2.2.2.2.1
  have hN0 : 0 < N := hN.1
  have hN9 : N ≤ 9 := hN.2
  clear hN
  have cc1 := hI.cell1
  have HI := Lib.hid hI
  have HJ := Lib.hid (And.intro h2 (And.intro h3 (And.intro h26 (And.intro hv h9))))
  clear hI h2 h3 h26 hv h9
  go_wp2
  clear cc1
  go_loopw [90] (fun i wr => ∃ (k : Nat) (cs' : List Value) (vA vB vT : Value) (xa xb xt : List Value), i = .int .i64 k ∧ k ≤ N ∧ Inv fm [] w wa N GA gc Gs A m cap ms mb cs' wr ∧ (cs'[2]? = some vA ∧ cs'[3]? = some vB ∧ cs'[26]? = some vT ∧ cs'[8]? = some (.slice none 0 0) ∧ cs'[9]? = some (.slice none 0 0)) ∧ wr.ownsRow w.heap.size 3 1 vA k xa ∧ wr.ownsRow w.heap.size 3 1 vB k xb ∧ wr.ownsRow w.heap.size 9 1 vT k xt ∧ (vA.ownBlock = none ∨ vA.ownBlock ≠ vB.ownBlock)) (fun i _ => N - (intOf i).toNat)
  case atStart => exact ⟨0, cs, _, _, _, [], [], [], rfl, Nat.zero_le _, HI.out, HJ.out, World.ownsRow_nil _ _ _ _, World.ownsRow_nil _ _ _ _, World.ownsRow_nil _ _ _ _, .inl rfl⟩
  case round =>
    clear HI HJ
    obtain ⟨k, cs2, vA, vB, vT, xa, xb, xt, rfl, hkN, hIX0, ⟨c2, c3, c26, c8, c9⟩, oa, ob, oc, od⟩ := hrel
    by_cases hlt : k < N
    · obtain ⟨X0, hX0⟩ : ∃ W, W = wr := ⟨_, rfl⟩
      subst hX0
      have hl2 := hIX0.len
      obtain ⟨r, hr⟩ : ∃ r : Nat, ((k : Int) + f / 1024).tmod 11 = (r : Int) := ⟨(((k : Int) + f / 1024).tmod 11).toNat, by have := Int.tmod_nonneg (a := (k : Int) + f / 1024) 11 (by omega); omega⟩
      have hr11 : r < 11 := by have := Int.tmod_lt_of_pos ((k : Int) + f / 1024) (b := 11) (by omega); omega
      have wk3 : IntKind.i64.wrap ((k : Int) + 3) = (k : Int) + 3 := IntWalk.i64_in _ (by omega)
      go_wp2_with fail
      refine Tail.start (S := (fun w1 => Blk mb 36 cs2 w1 ∧ Blk w.heap.size 47 [.slice A m cap] w1)) (tl := [9]) (by kernel_rfl) ⟨hIX0.drew.kc.1, hIX0.drew.kc.2.1⟩ (fun hHeld => ?_)
      obtain ⟨Xa, hX⟩ : ∃ X, X = X0.drew := ⟨_, rfl⟩
      have hIXa := hIX0.drew
      rw [← hX] at hIXa
      replace oa := own_keep oa (Below.drew (Below.refl _ _))
      rw [← hX] at oa
      replace ob := own_keep ob (Below.drew (Below.refl _ _))
      rw [← hX] at ob
      replace oc := own_keep oc (Below.drew (Below.refl _ _))
      rw [← hX] at oc
      rw [← hX]
      clear hX hHeld hIX0
      have hHeld : (fun w1 => Blk mb 36 cs2 w1 ∧ Blk w.heap.size 47 [.slice A m cap] w1) Xa := ⟨hIXa.kc.1, hIXa.kc.2.1⟩
      refine Tail.take (i := 0) (v := ?vq1) rfl (by kernel_rfl) (by kernel_rfl) (by kernel_rfl) (by kernel_rfl) (by kernel_rfl) (fun _ _ _ h => h) (Or.inl ⟨by rfl, ?hyq1⟩) (by assumption) ?restq1
      case hyq1 => (intro w1 hS; go_simp <;> with_reducible rfl)
      try simp only [Act.put, List.getElem_toArray, List.getElem_cons_zero, List.getElem_cons_succ, List.setIfInBounds_toArray, List.set_cons_zero, List.set_cons_succ]
      refine Tail.take (i := 1) (v := ?vq2) rfl (by kernel_rfl) (by kernel_rfl) (by kernel_rfl) (by kernel_rfl) (by kernel_rfl) (fun _ _ _ h => h) (Or.inl ⟨by rfl, ?hyq2⟩) (by assumption) ?restq2
      case hyq2 => (intro w1 hS; obtain ⟨s1, s2⟩ := hS; have m2 := s1.cell (i := 2) c2; go_simp <;> with_reducible rfl)
      try simp only [Act.put, List.getElem_toArray, List.getElem_cons_zero, List.getElem_cons_succ, List.setIfInBounds_toArray, List.set_cons_zero, List.set_cons_succ]
      refine Tail.take (i := 2) (v := ?vq3) rfl (by kernel_rfl) (by kernel_rfl) (by kernel_rfl) (by kernel_rfl) (by kernel_rfl) (fun _ _ _ h => h) (Or.inl ⟨by rfl, ?hyq3⟩) (by assumption) ?restq3
      case hyq3 => (intro w1 hS; go_simp <;> with_reducible rfl)
      try simp only [Act.put, List.getElem_toArray, List.getElem_cons_zero, List.getElem_cons_succ, List.setIfInBounds_toArray, List.set_cons_zero, List.set_cons_succ]
      refine Tail.take (i := 3) (v := ?vq4) rfl (by kernel_rfl) (by kernel_rfl) (by kernel_rfl) (by kernel_rfl) (by kernel_rfl) (fun _ _ _ h => h) (Or.inl ⟨by rfl, ?hyq4⟩) (by assumption) ?restq4
      case hyq4 => (intro w1 hS; go_simp <;> with_reducible rfl)
      try simp only [Act.put, List.getElem_toArray, List.getElem_cons_zero, List.getElem_cons_succ, List.setIfInBounds_toArray, List.set_cons_zero, List.set_cons_succ]
      refine Tail.ready (rs := [4]) (by kernel_rfl) (by simp) (Tail.AllReadyL.cons rfl (fun K hK => ?_) Tail.AllReadyL.nil)
      go_simp
      go_at_call 9
      refine (hIXa.number ((k : Int)) (by omega)).mono ?_
      rintro e Za ⟨va, rfl, hvva, hdZa, hIZa⟩
      replace oa := own_keep oa hdZa
      replace ob := own_keep ob hdZa
      replace oc := own_keep oc hdZa
      try go_wp2_with fail
      refine hK.out _ _ ⟨hIZa.kc.1, hIZa.kc.2.1⟩ (fun hHeld => ?_)
      clear hK K
      try simp only [Act.put, List.getElem_toArray, List.getElem_cons_zero, List.getElem_cons_succ, List.setIfInBounds_toArray, List.set_cons_zero, List.set_cons_succ]
      clear hdZa hIXa
      refine Tail.take (i := 5) (v := ?vq5) rfl (by kernel_rfl) (by kernel_rfl) (by kernel_rfl) (by kernel_rfl) (by kernel_rfl) (fun _ _ _ h => h) (Or.inl ⟨by rfl, ?hyq5⟩) (by assumption) ?restq5
      case hyq5 => (intro w1 hS; go_simp <;> with_reducible rfl)
      try simp only [Act.put, List.getElem_toArray, List.getElem_cons_zero, List.getElem_cons_succ, List.setIfInBounds_toArray, List.set_cons_zero, List.set_cons_succ]
      refine Tail.ready (rs := [6]) (by kernel_rfl) (by simp) (Tail.AllReadyL.cons rfl (fun K hK => ?_) Tail.AllReadyL.nil)
      go_simp
      have hd0 := bel_made Za #[.int .i64 (bits BinOp.and IntKind.i64 va 32767)] 3
      have hI0 := hIZa.below hd0
      refine hK.out _ _ ⟨hI0.kc.1, hI0.kc.2.1⟩ (fun hHeld => ?_)
      clear hK K
      try simp only [Act.put, List.getElem_toArray, List.getElem_cons_zero, List.getElem_cons_succ, List.setIfInBounds_toArray, List.set_cons_zero, List.set_cons_succ]
      obtain ⟨Ya, hY⟩ : ∃ Ya, Ya = Za.alloc (.cells #[.int .i64 (bits BinOp.and IntKind.i64 va 32767)] 3) := ⟨_, rfl⟩
      have hbYa : Blk Za.heap.size 3 [.int .i64 (bits BinOp.and IntKind.i64 va 32767)] Ya := by rw [hY]; exact Blk.new_ Za #[.int .i64 (bits BinOp.and IntKind.i64 va 32767)] 3
      rw [← hY]
      rw [← hY] at hHeld hd0 hI0
      have hIYa := hI0
      replace oa := own_keep oa hd0
      replace ob := own_keep ob hd0
      replace oc := own_keep oc hd0
      clear hY hI0 hd0
      refine Tail.ready (rs := [7]) (by kernel_rfl) (by simp) (Tail.AllReadyL.cons rfl (fun K hK => ?_) Tail.AllReadyL.nil)
      refine step_app2 rfl (.tmp 94) (.tmp 99) 28 rfl (w.heap.size) 3 i2 (.int .i64 0) 1 8 Tryd.underlying28 hi2 iz2 iy2 ib2 rfl (by decide) (vA) (k) xa rfl oa ⟨Za.heap.size, 0, none⟩ 1 1 [.int .i64 (bits BinOp.and IntKind.i64 va 32767)] rfl rfl (row_cells hbYa) (fun u hu => by simp at hu; subst hu; rfl) (by unfold maxLen; omega) (by omega) (by have := hIYa.sz; omega) ?_
      intro v7 Va own7 grow7 nil7 at7
      have hIVa := hIYa.grown grow7 (t := 3) (fun b hb => own_isT oa hb) (by decide) (by decide) (by decide) (by decide) (by decide) (by decide)
      refine hK.out _ _ ⟨hIVa.kc.1, hIVa.kc.2.1⟩ (fun hHeld => ?_)
      clear hK K
      try simp only [Act.put, List.getElem_toArray, List.getElem_cons_zero, List.getElem_cons_succ, List.setIfInBounds_toArray, List.set_cons_zero, List.set_cons_succ]
      have oa2 := own7
      have ob2 := ob.kept grow7 (ne_flip od)
      have oc2 := oc.kept grow7 (own_far oc oa (by decide))
      have od2 := ne_new ob od at7
      clear oa ob oc od grow7 at7 hbYa hIYa
      have oa := oa2
      have ob := ob2
      have oc := oc2
      have od := od2
      clear oa2 ob2 oc2 od2
      obtain ⟨ga, ca, hva, _, _, _, _⟩ := open_row own7 (fun h => by have := (nil7.1 h).2; omega)
      subst hva
      clear own7 nil7
      refine Tail.take (i := 8) (v := ?vq6) rfl (by kernel_rfl) (by kernel_rfl) (by kernel_rfl) (by kernel_rfl) (by kernel_rfl) (fun _ _ _ h => h) (Or.inl ⟨by rfl, ?hyq6⟩) (by assumption) ?restq6
      case hyq6 => (intro w1 hS; go_simp <;> with_reducible rfl)
      try simp only [Act.put, List.getElem_toArray, List.getElem_cons_zero, List.getElem_cons_succ, List.setIfInBounds_toArray, List.set_cons_zero, List.set_cons_succ]
      refine Tail.ready (rs := [9]) (by kernel_rfl) (by simp) (Tail.AllReadyL.last rfl (by rfl) (fun K hK => ?_) Tail.AllReadyL.nil)
      have ccx := hIVa.cell (i := 2) (List.getElem?_eq_getElem (by rw [hIVa.len]; omega))
      have cfx := hIVa.frozen
      go_simp
      refine hK.out _ _ ?_
      clear hK K
      try simp only [Act.put, List.getElem_toArray, List.getElem_cons_zero, List.getElem_cons_succ, List.setIfInBounds_toArray, List.set_cons_zero, List.set_cons_succ]
      refine Tail.done (by kernel_rfl) ?_ _
      obtain ⟨Wa, hW⟩ : ∃ W1, W1 = Va.setCell ⟨mb, 2, none⟩ (.slice (some ⟨ga, 0, none⟩) (k + 1) ca) := ⟨_, rfl⟩
      have hIWa := hIVa.set_ (i := 2) (u := .slice (some ⟨ga, 0, none⟩) (k + 1) ca) (by decide) (by decide) (by rfl)
      rw [← hW] at hIWa
      replace oa := own_setk (i := 2) (u := .slice (some ⟨ga, 0, none⟩) (k + 1) ca) oa hIVa.kc.1 (by decide)
      rw [← hW] at oa
      replace ob := own_setk (i := 2) (u := .slice (some ⟨ga, 0, none⟩) (k + 1) ca) ob hIVa.kc.1 (by decide)
      rw [← hW] at ob
      replace oc := own_setk (i := 2) (u := .slice (some ⟨ga, 0, none⟩) (k + 1) ca) oc hIVa.kc.1 (by decide)
      rw [← hW] at oc
      try rw [← hW]
      clear hW ccx cfx hIVa hHeld
      obtain ⟨vA2, hv2⟩ : ∃ v : Value, v = .slice (some ⟨ga, 0, none⟩) (k + 1) ca := ⟨_, rfl⟩
      have hl2 := hIWa.len
      rw [List.length_set] at hl2
      obtain ⟨csa, hcs⟩ : ∃ l, l = cs2.set 2 (.slice (some ⟨ga, 0, none⟩) (k + 1) ca) := ⟨_, rfl⟩
      have d2 : csa[2]? = some vA2 := by rw [hcs, hv2]; exact List.getElem?_set_self (by omega)
      have d3 : csa[3]? = some vB := by rw [hcs]; exact (List.getElem?_set_ne (by decide)).trans c3
      have d26 : csa[26]? = some vT := by rw [hcs]; exact (List.getElem?_set_ne (by decide)).trans c26
      have d8 : csa[8]? = some (.slice none 0 0) := by rw [hcs]; exact (List.getElem?_set_ne (by decide)).trans c8
      have d9 : csa[9]? = some (.slice none 0 0) := by rw [hcs]; exact (List.getElem?_set_ne (by decide)).trans c9
      try rw [← hv2] at oa
      rw [← hv2] at od
      rw [← hcs] at hIWa
      try rw [← hv2]
      clear hv2 hcs hl2 c2 c3 c26 c8 c9
      have c2 := d2
      have c3 := d3
      have c26 := d26
      have c8 := d8
      have c9 := d9
      clear d2 d3 d26 d8 d9
      have hl2 := hIWa.len
      go_wp2_with fail
      refine Tail.start (S := (fun w1 => Blk mb 36 csa w1 ∧ Blk w.heap.size 47 [.slice A m cap] w1)) (tl := [9]) (by kernel_rfl) ⟨hIWa.drew.kc.1, hIWa.drew.kc.2.1⟩ (fun hHeld => ?_)
      obtain ⟨Xb, hX⟩ : ∃ X, X = Wa.drew := ⟨_, rfl⟩
      have hIXb := hIWa.drew
      rw [← hX] at hIXb
      replace oa := own_keep oa (Below.drew (Below.refl _ _))
      rw [← hX] at oa
      replace ob := own_keep ob (Below.drew (Below.refl _ _))
      rw [← hX] at ob
      replace oc := own_keep oc (Below.drew (Below.refl _ _))
      rw [← hX] at oc
      rw [← hX]
      clear hX hHeld hIWa
      have hHeld : (fun w1 => Blk mb 36 csa w1 ∧ Blk w.heap.size 47 [.slice A m cap] w1) Xb := ⟨hIXb.kc.1, hIXb.kc.2.1⟩
      refine Tail.take (i := 0) (v := ?vq7) rfl (by kernel_rfl) (by kernel_rfl) (by kernel_rfl) (by kernel_rfl) (by kernel_rfl) (fun _ _ _ h => h) (Or.inl ⟨by rfl, ?hyq7⟩) (by assumption) ?restq7
      case hyq7 => (intro w1 hS; go_simp <;> with_reducible rfl)
      try simp only [Act.put, List.getElem_toArray, List.getElem_cons_zero, List.getElem_cons_succ, List.setIfInBounds_toArray, List.set_cons_zero, List.set_cons_succ]
      refine Tail.take (i := 1) (v := ?vq8) rfl (by kernel_rfl) (by kernel_rfl) (by kernel_rfl) (by kernel_rfl) (by kernel_rfl) (fun _ _ _ h => h) (Or.inl ⟨by rfl, ?hyq8⟩) (by assumption) ?restq8
      case hyq8 => (intro w1 hS; obtain ⟨s1, s2⟩ := hS; have m3 := s1.cell (i := 3) c3; go_simp <;> with_reducible rfl)
      try simp only [Act.put, List.getElem_toArray, List.getElem_cons_zero, List.getElem_cons_succ, List.setIfInBounds_toArray, List.set_cons_zero, List.set_cons_succ]
      refine Tail.take (i := 2) (v := ?vq9) rfl (by kernel_rfl) (by kernel_rfl) (by kernel_rfl) (by kernel_rfl) (by kernel_rfl) (fun _ _ _ h => h) (Or.inl ⟨by rfl, ?hyq9⟩) (by assumption) ?restq9
      case hyq9 => (intro w1 hS; go_simp <;> with_reducible rfl)
      try simp only [Act.put, List.getElem_toArray, List.getElem_cons_zero, List.getElem_cons_succ, List.setIfInBounds_toArray, List.set_cons_zero, List.set_cons_succ]
      refine Tail.take (i := 3) (v := ?vq10) rfl (by kernel_rfl) (by kernel_rfl) (by kernel_rfl) (by kernel_rfl) (by kernel_rfl) (fun _ _ _ h => h) (Or.inl ⟨by rfl, ?hyq10⟩) (by assumption) ?restq10
      case hyq10 => (intro w1 hS; go_simp <;> with_reducible rfl)
      try simp only [Act.put, List.getElem_toArray, List.getElem_cons_zero, List.getElem_cons_succ, List.setIfInBounds_toArray, List.set_cons_zero, List.set_cons_succ]
      refine Tail.take (i := 4) (v := ?vq11) rfl (by kernel_rfl) (by kernel_rfl) (by kernel_rfl) (by kernel_rfl) (by kernel_rfl) (fun _ _ _ h => h) (Or.inl ⟨by rfl, ?hyq11⟩) (by assumption) ?restq11
      case hyq11 => (intro w1 hS; go_simp <;> with_reducible rfl)
      try simp only [Act.put, List.getElem_toArray, List.getElem_cons_zero, List.getElem_cons_succ, List.setIfInBounds_toArray, List.set_cons_zero, List.set_cons_succ]
      refine Tail.ready (rs := [5]) (by kernel_rfl) (by simp) (Tail.AllReadyL.cons rfl (fun K hK => ?_) Tail.AllReadyL.nil)
      go_simp
      go_at_call 9
      refine (hIXb.number ((k : Int) + 3) (by omega)).mono ?_
      rintro e Zb ⟨vb, rfl, hvvb, hdZb, hIZb⟩
      replace oa := own_keep oa hdZb
      replace ob := own_keep ob hdZb
      replace oc := own_keep oc hdZb
      try go_wp2_with fail
      refine hK.out _ _ ⟨hIZb.kc.1, hIZb.kc.2.1⟩ (fun hHeld => ?_)
      clear hK K
      try simp only [Act.put, List.getElem_toArray, List.getElem_cons_zero, List.getElem_cons_succ, List.setIfInBounds_toArray, List.set_cons_zero, List.set_cons_succ]
      clear hdZb hIXb
      refine Tail.ready (rs := [6]) (by kernel_rfl) (by simp) (Tail.AllReadyL.cons rfl (fun K hK => ?_) Tail.AllReadyL.nil)
      go_simp
      have hd0 := bel_made Zb #[.int .i64 vb] 3
      have hI0 := hIZb.below hd0
      refine hK.out _ _ ⟨hI0.kc.1, hI0.kc.2.1⟩ (fun hHeld => ?_)
      clear hK K
      try simp only [Act.put, List.getElem_toArray, List.getElem_cons_zero, List.getElem_cons_succ, List.setIfInBounds_toArray, List.set_cons_zero, List.set_cons_succ]
      obtain ⟨Yb, hY⟩ : ∃ Yb, Yb = Zb.alloc (.cells #[.int .i64 vb] 3) := ⟨_, rfl⟩
      have hbYb : Blk Zb.heap.size 3 [.int .i64 vb] Yb := by rw [hY]; exact Blk.new_ Zb #[.int .i64 vb] 3
      rw [← hY]
      rw [← hY] at hHeld hd0 hI0
      have hIYb := hI0
      replace oa := own_keep oa hd0
      replace ob := own_keep ob hd0
      replace oc := own_keep oc hd0
      clear hY hI0 hd0
      refine Tail.ready (rs := [7]) (by kernel_rfl) (by simp) (Tail.AllReadyL.cons rfl (fun K hK => ?_) Tail.AllReadyL.nil)
      refine step_app2 rfl (.tmp 103) (.tmp 108) 28 rfl (w.heap.size) 3 i2 (.int .i64 0) 1 8 Tryd.underlying28 hi2 iz2 iy2 ib2 rfl (by decide) (vB) (k) xb rfl ob ⟨Zb.heap.size, 0, none⟩ 1 1 [.int .i64 vb] rfl rfl (row_cells hbYb) (fun u hu => by simp at hu; subst hu; rfl) (by unfold maxLen; omega) (by omega) (by have := hIYb.sz; omega) ?_
      intro v7 Vb own7 grow7 nil7 at7
      have hIVb := hIYb.grown grow7 (t := 3) (fun b hb => own_isT ob hb) (by decide) (by decide) (by decide) (by decide) (by decide) (by decide)
      refine hK.out _ _ ⟨hIVb.kc.1, hIVb.kc.2.1⟩ (fun hHeld => ?_)
      clear hK K
      try simp only [Act.put, List.getElem_toArray, List.getElem_cons_zero, List.getElem_cons_succ, List.setIfInBounds_toArray, List.set_cons_zero, List.set_cons_succ]
      have ob2 := own7
      have oa2 := oa.kept grow7 od
      have oc2 := oc.kept grow7 (own_far oc ob (by decide))
      have od2 := ne_flip (ne_new oa (ne_flip od) at7)
      clear oa ob oc od grow7 at7 hbYb hIYb
      have oa := oa2
      have ob := ob2
      have oc := oc2
      have od := od2
      clear oa2 ob2 oc2 od2
      obtain ⟨ga, ca, hva, _, _, _, _⟩ := open_row own7 (fun h => by have := (nil7.1 h).2; omega)
      subst hva
      clear own7 nil7
      refine Tail.take (i := 8) (v := ?vq12) rfl (by kernel_rfl) (by kernel_rfl) (by kernel_rfl) (by kernel_rfl) (by kernel_rfl) (fun _ _ _ h => h) (Or.inl ⟨by rfl, ?hyq12⟩) (by assumption) ?restq12
      case hyq12 => (intro w1 hS; go_simp <;> with_reducible rfl)
      try simp only [Act.put, List.getElem_toArray, List.getElem_cons_zero, List.getElem_cons_succ, List.setIfInBounds_toArray, List.set_cons_zero, List.set_cons_succ]
      refine Tail.ready (rs := [9]) (by kernel_rfl) (by simp) (Tail.AllReadyL.last rfl (by rfl) (fun K hK => ?_) Tail.AllReadyL.nil)
      have ccx := hIVb.cell (i := 3) (List.getElem?_eq_getElem (by rw [hIVb.len]; omega))
      have cfx := hIVb.frozen
      go_simp
      refine hK.out _ _ ?_
      clear hK K
      try simp only [Act.put, List.getElem_toArray, List.getElem_cons_zero, List.getElem_cons_succ, List.setIfInBounds_toArray, List.set_cons_zero, List.set_cons_succ]
      refine Tail.done (by kernel_rfl) ?_ _
      obtain ⟨Wb, hW⟩ : ∃ W1, W1 = Vb.setCell ⟨mb, 3, none⟩ (.slice (some ⟨ga, 0, none⟩) (k + 1) ca) := ⟨_, rfl⟩
      have hIWb := hIVb.set_ (i := 3) (u := .slice (some ⟨ga, 0, none⟩) (k + 1) ca) (by decide) (by decide) (by rfl)
      rw [← hW] at hIWb
      replace oa := own_setk (i := 3) (u := .slice (some ⟨ga, 0, none⟩) (k + 1) ca) oa hIVb.kc.1 (by decide)
      rw [← hW] at oa
      replace ob := own_setk (i := 3) (u := .slice (some ⟨ga, 0, none⟩) (k + 1) ca) ob hIVb.kc.1 (by decide)
      rw [← hW] at ob
      replace oc := own_setk (i := 3) (u := .slice (some ⟨ga, 0, none⟩) (k + 1) ca) oc hIVb.kc.1 (by decide)
      rw [← hW] at oc
      try rw [← hW]
      clear hW ccx cfx hIVb hHeld
      obtain ⟨vB2, hv2⟩ : ∃ v : Value, v = .slice (some ⟨ga, 0, none⟩) (k + 1) ca := ⟨_, rfl⟩
      have hl2 := hIWb.len
      rw [List.length_set] at hl2
      obtain ⟨csb, hcs⟩ : ∃ l, l = csa.set 3 (.slice (some ⟨ga, 0, none⟩) (k + 1) ca) := ⟨_, rfl⟩
      have d2 : csb[2]? = some vA2 := by rw [hcs]; exact (List.getElem?_set_ne (by decide)).trans c2
      have d3 : csb[3]? = some vB2 := by rw [hcs, hv2]; exact List.getElem?_set_self (by omega)
      have d26 : csb[26]? = some vT := by rw [hcs]; exact (List.getElem?_set_ne (by decide)).trans c26
      have d8 : csb[8]? = some (.slice none 0 0) := by rw [hcs]; exact (List.getElem?_set_ne (by decide)).trans c8
      have d9 : csb[9]? = some (.slice none 0 0) := by rw [hcs]; exact (List.getElem?_set_ne (by decide)).trans c9
      try rw [← hv2] at ob
      rw [← hv2] at od
      rw [← hcs] at hIWb
      try rw [← hv2]
      clear hv2 hcs hl2 c2 c3 c26 c8 c9
      have c2 := d2
      have c3 := d3
      have c26 := d26
      have c8 := d8
      have c9 := d9
      clear d2 d3 d26 d8 d9
      have hl2 := hIWb.len
      have wk1 : IntKind.i64.wrap (f / 1024) = f / 1024 := IntWalk.i64_in _ (by omega)
      have wk2 : IntKind.i64.wrap ((k : Int) + f / 1024) = (k : Int) + f / 1024 := IntWalk.i64_in _ (by omega)
      have wk4 : IntKind.i64.wrap (1 + (r : Int)) = 1 + (r : Int) := IntWalk.i64_in _ (by omega)
      have wk5 : (0 : Int) ≤ 1 + (r : Int) ∧ 1 + (r : Int) ≤ 11 := by omega
      have wk6 : (1 + (r : Int)).toNat = 1 + r := by omega
      go_wp2_with fail
      refine Tail.start (S := (fun w1 => Blk mb 36 csb w1 ∧ Blk w.heap.size 47 [.slice A m cap] w1)) (tl := [13]) (by kernel_rfl) ⟨hIWb.drew.kc.1, hIWb.drew.kc.2.1⟩ (fun hHeld => ?_)
      obtain ⟨Xc, hX⟩ : ∃ X, X = Wb.drew := ⟨_, rfl⟩
      have hIXc := hIWb.drew
      rw [← hX] at hIXc
      replace oa := own_keep oa (Below.drew (Below.refl _ _))
      rw [← hX] at oa
      replace ob := own_keep ob (Below.drew (Below.refl _ _))
      rw [← hX] at ob
      replace oc := own_keep oc (Below.drew (Below.refl _ _))
      rw [← hX] at oc
      rw [← hX]
      clear hX hHeld hIWb
      have hHeld : (fun w1 => Blk mb 36 csb w1 ∧ Blk w.heap.size 47 [.slice A m cap] w1) Xc := ⟨hIXc.kc.1, hIXc.kc.2.1⟩
      refine Tail.take (i := 0) (v := ?vq13) rfl (by kernel_rfl) (by kernel_rfl) (by kernel_rfl) (by kernel_rfl) (by kernel_rfl) (fun _ _ _ h => h) (Or.inl ⟨by rfl, ?hyq13⟩) (by assumption) ?restq13
      case hyq13 => (intro w1 hS; go_simp <;> with_reducible rfl)
      try simp only [Act.put, List.getElem_toArray, List.getElem_cons_zero, List.getElem_cons_succ, List.setIfInBounds_toArray, List.set_cons_zero, List.set_cons_succ]
      refine Tail.take (i := 1) (v := ?vq14) rfl (by kernel_rfl) (by kernel_rfl) (by kernel_rfl) (by kernel_rfl) (by kernel_rfl) (fun _ _ _ h => h) (Or.inl ⟨by rfl, ?hyq14⟩) (by assumption) ?restq14
      case hyq14 => (intro w1 hS; obtain ⟨s1, s2⟩ := hS; have m26 := s1.cell (i := 26) c26; go_simp <;> with_reducible rfl)
      try simp only [Act.put, List.getElem_toArray, List.getElem_cons_zero, List.getElem_cons_succ, List.setIfInBounds_toArray, List.set_cons_zero, List.set_cons_succ]
      refine Tail.take (i := 2) (v := ?vq15) rfl (by kernel_rfl) (by kernel_rfl) (by kernel_rfl) (by kernel_rfl) (by kernel_rfl) (fun _ _ _ h => h) (Or.inl ⟨by rfl, ?hyq15⟩) (by assumption) ?restq15
      case hyq15 => (intro w1 hS; go_simp <;> with_reducible rfl)
      try simp only [Act.put, List.getElem_toArray, List.getElem_cons_zero, List.getElem_cons_succ, List.setIfInBounds_toArray, List.set_cons_zero, List.set_cons_succ]
      refine Tail.take (i := 3) (v := ?vq16) rfl (by kernel_rfl) (by kernel_rfl) (by kernel_rfl) (by kernel_rfl) (by kernel_rfl) (fun _ _ _ h => h) (Or.inl ⟨by rfl, ?hyq16⟩) (by assumption) ?restq16
      case hyq16 => (intro w1 hS; go_simp <;> with_reducible rfl)
      try simp only [Act.put, List.getElem_toArray, List.getElem_cons_zero, List.getElem_cons_succ, List.setIfInBounds_toArray, List.set_cons_zero, List.set_cons_succ]
      refine Tail.take (i := 4) (v := ?vq17) rfl (by kernel_rfl) (by kernel_rfl) (by kernel_rfl) (by kernel_rfl) (by kernel_rfl) (fun _ _ _ h => h) (Or.inl ⟨by rfl, ?hyq17⟩) (by assumption) ?restq17
      case hyq17 => (intro w1 hS; go_simp <;> with_reducible rfl)
      try simp only [Act.put, List.getElem_toArray, List.getElem_cons_zero, List.getElem_cons_succ, List.setIfInBounds_toArray, List.set_cons_zero, List.set_cons_succ]
      refine Tail.take (i := 5) (v := ?vq18) rfl (by kernel_rfl) (by kernel_rfl) (by kernel_rfl) (by kernel_rfl) (by kernel_rfl) (fun _ _ _ h => h) (Or.inl ⟨by rfl, ?hyq18⟩) (by assumption) ?restq18
      case hyq18 => (intro w1 hS; go_simp <;> with_reducible rfl)
      try simp only [Act.put, List.getElem_toArray, List.getElem_cons_zero, List.getElem_cons_succ, List.setIfInBounds_toArray, List.set_cons_zero, List.set_cons_succ]
      refine Tail.take (i := 6) (v := ?vq19) rfl (by kernel_rfl) (by kernel_rfl) (by kernel_rfl) (by kernel_rfl) (by kernel_rfl) (fun _ _ _ h => h) (Or.inl ⟨by rfl, ?hyq19⟩) (by assumption) ?restq19
      case hyq19 => (intro w1 hS; go_simp <;> with_reducible rfl)
      try simp only [Act.put, List.getElem_toArray, List.getElem_cons_zero, List.getElem_cons_succ, List.setIfInBounds_toArray, List.set_cons_zero, List.set_cons_succ]
      refine Tail.take (i := 7) (v := ?vq20) rfl (by kernel_rfl) (by kernel_rfl) (by kernel_rfl) (by kernel_rfl) (by kernel_rfl) (fun _ _ _ h => h) (Or.inl ⟨by rfl, ?hyq20⟩) (by assumption) ?restq20
      case hyq20 => (intro w1 hS; go_simp <;> with_reducible rfl)
      try simp only [Act.put, List.getElem_toArray, List.getElem_cons_zero, List.getElem_cons_succ, List.setIfInBounds_toArray, List.set_cons_zero, List.set_cons_succ]
      refine Tail.take (i := 8) (v := ?vq21) rfl (by kernel_rfl) (by kernel_rfl) (by kernel_rfl) (by kernel_rfl) (by kernel_rfl) (fun _ _ _ h => h) (Or.inl ⟨by rfl, ?hyq21⟩) (by assumption) ?restq21
      case hyq21 => (intro w1 hS; go_simp <;> with_reducible rfl)
      try simp only [Act.put, List.getElem_toArray, List.getElem_cons_zero, List.getElem_cons_succ, List.setIfInBounds_toArray, List.set_cons_zero, List.set_cons_succ]
      refine Tail.take (i := 9) (v := ?vq22) rfl (by kernel_rfl) (by kernel_rfl) (by kernel_rfl) (by kernel_rfl) (by kernel_rfl) (fun _ _ _ h => h) (Or.inl ⟨by rfl, ?hyq22⟩) (by assumption) ?restq22
      case hyq22 => (intro w1 hS; go_simp <;> with_reducible rfl)
      try simp only [Act.put, List.getElem_toArray, List.getElem_cons_zero, List.getElem_cons_succ, List.setIfInBounds_toArray, List.set_cons_zero, List.set_cons_succ]
      refine Tail.ready (rs := [10]) (by kernel_rfl) (by simp) (Tail.AllReadyL.cons rfl (fun K hK => ?_) Tail.AllReadyL.nil)
      go_simp
      have hd0 := bel_made Xc #[.string ((⟨#[103, 108, 121, 112, 104, 46, 116, 105, 116, 108, 101]⟩ : ByteArray).extract 0 (1 + r))] 9
      have hI0 := hIXc.below hd0
      refine hK.out _ _ ⟨hI0.kc.1, hI0.kc.2.1⟩ (fun hHeld => ?_)
      clear hK K
      try simp only [Act.put, List.getElem_toArray, List.getElem_cons_zero, List.getElem_cons_succ, List.setIfInBounds_toArray, List.set_cons_zero, List.set_cons_succ]
      obtain ⟨Yc, hY⟩ : ∃ Yc, Yc = Xc.alloc (.cells #[.string ((⟨#[103, 108, 121, 112, 104, 46, 116, 105, 116, 108, 101]⟩ : ByteArray).extract 0 (1 + r))] 9) := ⟨_, rfl⟩
      have hbYc : Blk Xc.heap.size 9 [.string ((⟨#[103, 108, 121, 112, 104, 46, 116, 105, 116, 108, 101]⟩ : ByteArray).extract 0 (1 + r))] Yc := by rw [hY]; exact Blk.new_ Xc #[.string ((⟨#[103, 108, 121, 112, 104, 46, 116, 105, 116, 108, 101]⟩ : ByteArray).extract 0 (1 + r))] 9
      rw [← hY]
      rw [← hY] at hHeld hd0 hI0
      have hIYc := hI0
      replace oa := own_keep oa hd0
      replace ob := own_keep ob hd0
      replace oc := own_keep oc hd0
      clear hY hI0 hd0
      refine Tail.ready (rs := [11]) (by kernel_rfl) (by simp) (Tail.AllReadyL.cons rfl (fun K hK => ?_) Tail.AllReadyL.nil)
      refine step_app2 rfl (.tmp 112) (.tmp 121) 34 rfl (w.heap.size) 9 i3 (.string ⟨#[]⟩) 1 16 Tryd.underlying34 hi3 iz3 iy3 ib3 rfl (by decide) (vT) (k) xt rfl oc ⟨Xc.heap.size, 0, none⟩ 1 1 [.string ((⟨#[103, 108, 121, 112, 104, 46, 116, 105, 116, 108, 101]⟩ : ByteArray).extract 0 (1 + r))] rfl rfl (row_cells hbYc) (fun u hu => by simp at hu; subst hu; rfl) (by unfold maxLen; omega) (by omega) (by have := hIYc.sz; omega) ?_
      intro v11 Vc own11 grow11 nil11 at11
      have hIVc := hIYc.grown grow11 (t := 9) (fun b hb => own_isT oc hb) (by decide) (by decide) (by decide) (by decide) (by decide) (by decide)
      refine hK.out _ _ ⟨hIVc.kc.1, hIVc.kc.2.1⟩ (fun hHeld => ?_)
      clear hK K
      try simp only [Act.put, List.getElem_toArray, List.getElem_cons_zero, List.getElem_cons_succ, List.setIfInBounds_toArray, List.set_cons_zero, List.set_cons_succ]
      have oc2 := own11
      have oa2 := oa.kept grow11 (own_far oa oc (by decide))
      have ob2 := ob.kept grow11 (own_far ob oc (by decide))
      have od2 := od
      clear oa ob oc od grow11 hbYc hIYc
      have oa := oa2
      have ob := ob2
      have oc := oc2
      have od := od2
      clear oa2 ob2 oc2 od2
      obtain ⟨ga, ca, hva, _, _, _, _⟩ := open_row own11 (fun h => by have := (nil11.1 h).2; omega)
      subst hva
      clear own11 nil11
      refine Tail.take (i := 12) (v := ?vq23) rfl (by kernel_rfl) (by kernel_rfl) (by kernel_rfl) (by kernel_rfl) (by kernel_rfl) (fun _ _ _ h => h) (Or.inl ⟨by rfl, ?hyq23⟩) (by assumption) ?restq23
      case hyq23 => (intro w1 hS; go_simp <;> with_reducible rfl)
      try simp only [Act.put, List.getElem_toArray, List.getElem_cons_zero, List.getElem_cons_succ, List.setIfInBounds_toArray, List.set_cons_zero, List.set_cons_succ]
      refine Tail.ready (rs := [13]) (by kernel_rfl) (by simp) (Tail.AllReadyL.last rfl (by rfl) (fun K hK => ?_) Tail.AllReadyL.nil)
      have ccx := hIVc.cell (i := 26) (List.getElem?_eq_getElem (by rw [hIVc.len]; omega))
      have cfx := hIVc.frozen
      go_simp
      refine hK.out _ _ ?_
      clear hK K
      try simp only [Act.put, List.getElem_toArray, List.getElem_cons_zero, List.getElem_cons_succ, List.setIfInBounds_toArray, List.set_cons_zero, List.set_cons_succ]
      refine Tail.done (by kernel_rfl) ?_ _
      obtain ⟨Wc, hW⟩ : ∃ W1, W1 = Vc.setCell ⟨mb, 26, none⟩ (.slice (some ⟨ga, 0, none⟩) (k + 1) ca) := ⟨_, rfl⟩
      have hIWc := hIVc.set_ (i := 26) (u := .slice (some ⟨ga, 0, none⟩) (k + 1) ca) (by decide) (by decide) (by rfl)
      rw [← hW] at hIWc
      replace oa := own_setk (i := 26) (u := .slice (some ⟨ga, 0, none⟩) (k + 1) ca) oa hIVc.kc.1 (by decide)
      rw [← hW] at oa
      replace ob := own_setk (i := 26) (u := .slice (some ⟨ga, 0, none⟩) (k + 1) ca) ob hIVc.kc.1 (by decide)
      rw [← hW] at ob
      replace oc := own_setk (i := 26) (u := .slice (some ⟨ga, 0, none⟩) (k + 1) ca) oc hIVc.kc.1 (by decide)
      rw [← hW] at oc
      try rw [← hW]
      clear hW ccx cfx hIVc hHeld
      obtain ⟨vT2, hv2⟩ : ∃ v : Value, v = .slice (some ⟨ga, 0, none⟩) (k + 1) ca := ⟨_, rfl⟩
      have hl2 := hIWc.len
      rw [List.length_set] at hl2
      obtain ⟨csc, hcs⟩ : ∃ l, l = csb.set 26 (.slice (some ⟨ga, 0, none⟩) (k + 1) ca) := ⟨_, rfl⟩
      have d2 : csc[2]? = some vA2 := by rw [hcs]; exact (List.getElem?_set_ne (by decide)).trans c2
      have d3 : csc[3]? = some vB2 := by rw [hcs]; exact (List.getElem?_set_ne (by decide)).trans c3
      have d26 : csc[26]? = some vT2 := by rw [hcs, hv2]; exact List.getElem?_set_self (by omega)
      have d8 : csc[8]? = some (.slice none 0 0) := by rw [hcs]; exact (List.getElem?_set_ne (by decide)).trans c8
      have d9 : csc[9]? = some (.slice none 0 0) := by rw [hcs]; exact (List.getElem?_set_ne (by decide)).trans c9
      try rw [← hv2] at oc
      rw [← hcs] at hIWc
      try rw [← hv2]
      clear hv2 hcs hl2 c2 c3 c26 c8 c9
      have c2 := d2
      have c3 := d3
      have c26 := d26
      have c8 := d8
      have c9 := d9
      clear d2 d3 d26 d8 d9
      have HF := Lib.hid (And.intro hIWc (And.intro oa (And.intro ob (And.intro oc od))))
      clear hIWc oa ob oc od
      have HC := Lib.hid (And.intro c2 (And.intro c3 (And.intro c26 (And.intro c8 c9))))
      clear c2 c3 c26 c8 c9
      go_wp2
      go_roundw
      case rel => exact ⟨k + 1, csc, vA2, vB2, vT2, _, _, _, by go_num, by omega, HF.out.1, HC.out, HF.out.2.1, HF.out.2.2.1, HF.out.2.2.2.1, HF.out.2.2.2.2⟩
      case measure => simp [intOf]; omega
    · obtain rfl : N = k := by omega
      repeat (first | ((with_reducible refine Gate.seq ?_); refine r6 f wa N GA A gc m cap mb ms Gs _ w _ _ _ (by kernel_rfl) (by exact ⟨rfl, rfl, rfl, rfl, rfl, rfl, rfl⟩) hIX0 c9 c8 hf hLt) | go_values | go_skip | go_guarded | go_step | go_upon | go_back | go_simp)
end Go.Proofs.YthcdolgmifkfdaaDoor.CadK
