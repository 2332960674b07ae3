/- Contracts of the reader's closing of a contour. -/
import Derived.Test.YtdeaodgcdacleaaDoorItD
namespace Go.Proofs.YtdeaodgcdacleaaDoor.ItE
open Go.ChangeShapes Go.WideShapes Go.ChangeAt Go.RowKit
open Lst Mem RowG GlyM IdxB DatE ItA ItB PthA SpecB ItC
set_option linter.unusedSimpArgs false
set_option linter.unusedVariables false
theorem mid_bel (p q : Pt) (w : World) (hp : Bp p) (hq : Bp q) :
    Calls Tryd.prog 41 #[.agg #[.int .i32 p.1, .int .i32 p.2], .agg #[.int .i32 q.1, .int .i32 q.2]] w fun e w' => e = .returned (.agg #[.int .i32 (mid p q).1, .int .i32 (mid p q).2]) ∧ Below w.heap.size w w' := by
  obtain ⟨⟨x1, x2⟩, hx1, hx2⟩ := hp.mid hq
  obtain ⟨⟨a1, a2⟩, b1, b2⟩ := hp
  obtain ⟨⟨c1, c2⟩, d1, d2⟩ := hq
  obtain ⟨mx, hmx⟩ : ∃ m, (mid p q).1 = m := ⟨_, rfl⟩
  obtain ⟨my, hmy⟩ : ∃ m, (mid p q).2 = m := ⟨_, rfl⟩
  rw [hmx] at x1 x2
  rw [hmy] at hx1 hx2
  have e1 : (p.1 + q.1).tdiv 2 = mx := hmx
  have e2 : (p.2 + q.2).tdiv 2 = my := hmy
  rw [hmx, hmy]
  clear hmx hmy
  obtain ⟨px, py⟩ := p
  obtain ⟨qx, qy⟩ := q
  simp only at a1 a2 b1 b2 c1 c2 d1 d2 e1 e2
  have w1 : IntKind.i32.wrap mx = mx := IntWalk.i32_in _ (by omega)
  have w2 : IntKind.i32.wrap my = my := IntWalk.i32_in _ (by omega)
  have w3 : IntKind.i32.wrap (px + qx) = px + qx := IntWalk.i32_in _ (by omega)
  have w4 : IntKind.i32.wrap (py + qy) = py + qy := IntWalk.i32_in _ (by omega)
  go_enter Tryd.func41, Tryd.ntmps41
  go_wp2
  exact bodyPost_ret (v := .agg #[.int .i32 mx, .int .i32 my]) (by simp [results, Tryd.results41, go_sem]) rfl ⟨rfl, by repeat (first | exact Below.refl _ _ | exact bel_made _ _ _ | refine Below.alloc ?_ (by simp <;> omega) _)⟩
/-- a step laid into the box -/
theorem seg_set {w0 w : World} {gb : Nat} {D E : Value} {t : It} (hB : Blk gb IT (t.cs D E) w) (hg : w0.grownBy w (some gb)) (op : Int) (q0 q1 q2 : Pt) :
    Blk gb IT (({ t with op := op, q0 := q0, q1 := q1, q2 := q2 } : It).cs D E) (((((((w.setCell ⟨gb, 28, none⟩ (.int .u32 op)).setCell ⟨gb, 29, none⟩ (.int .i32 q0.1)).setCell ⟨gb, 30, none⟩ (.int .i32 q0.2)).setCell ⟨gb, 31, none⟩ (.int .i32 q1.1)).setCell ⟨gb, 32, none⟩ (.int .i32 q1.2)).setCell ⟨gb, 33, none⟩ (.int .i32 q2.1)).setCell ⟨gb, 34, none⟩ (.int .i32 q2.2)) ∧
      w0.grownBy (((((((w.setCell ⟨gb, 28, none⟩ (.int .u32 op)).setCell ⟨gb, 29, none⟩ (.int .i32 q0.1)).setCell ⟨gb, 30, none⟩ (.int .i32 q0.2)).setCell ⟨gb, 31, none⟩ (.int .i32 q1.1)).setCell ⟨gb, 32, none⟩ (.int .i32 q1.2)).setCell ⟨gb, 33, none⟩ (.int .i32 q2.1)).setCell ⟨gb, 34, none⟩ (.int .i32 q2.2)) (some gb) :=
  ⟨((((((hB.set_ 28 _).set_ 29 _).set_ 30 _).set_ 31 _).set_ 32 _).set_ 33 _).set_ 34 _, gtr (gtr (gtr (gtr (gtr (gtr (gtr hg (gset _ _ _ _)) (gset _ _ _ _)) (gset _ _ _ _)) (gset _ _ _ _)) (gset _ _ _ _)) (gset _ _ _ _)) (gset _ _ _ _)⟩
theorem gbel {w w' : World} (hb : Below w.heap.size w w') (r : Option Nat) : w.grownBy w' r := by
  obtain ⟨a, b, c, d, e⟩ := hb
  exact ⟨a, b, c, d, fun i hi _ => e i hi⟩
theorem gself (w : World) (r : Option Nat) : w.grownBy w r := ⟨rfl, rfl, rfl, Nat.le_refl _, fun _ _ _ => rfl⟩
/-- the end of a step's text -/
def StP (gb : Nat) (D E : Value) (v : Value) (t : It) (W : World) (e : Ending) (w' : World) : Prop := e = .returned v ∧ Blk gb IT (t.cs D E) w' ∧ W.grownBy w' (some gb)
set_option maxHeartbeats 60000000 in
set_option maxRecDepth 20000 in
theorem close_ff (w : World) (gb : Nat) (D E : Value) (t : It) (hB : Blk gb IT (t.cs D E) w) (h2 : t.v2 = false) (h3 : t.v3 = false) :
    Calls Tryd.prog 40 #[.pointer (some ⟨gb, 0, none⟩)] w (StP gb D E (.tuple #[]) { t with cd := true, op := 1, q0 := t.a, q1 := (0, 0), q2 := (0, 0) } w) := by
  have c20 := hB.cell (i := 20) (u := .bool false) (by rw [← h2]; rfl)
  have c21 := hB.cell (i := 21) (u := .bool false) (by rw [← h3]; rfl)
  have c18 := hB.cell (i := 18) rfl
  have cf := hB.frozen
  have hBX := hB
  have k28 := hBX.cell (i := 28) rfl
  have k29 := hBX.cell (i := 29) rfl
  have k30 := hBX.cell (i := 30) rfl
  have k31 := hBX.cell (i := 31) rfl
  have k32 := hBX.cell (i := 32) rfl
  have k33 := hBX.cell (i := 33) rfl
  have k34 := hBX.cell (i := 34) rfl
  have k22 := hBX.cell (i := 22) rfl
  have k23 := hBX.cell (i := 23) rfl
  have H := Lib.hid (seg_set (hB.set_ 18 (.bool true)) (gset w gb 18 (.bool true)) (t := { t with cd := true }) 1 t.a (0, 0) (0, 0))
  clear hB h2 h3 hBX
  go_enter Tryd.func40, Tryd.ntmps40
  go_wp2
  go_end0
  exact ⟨rfl, H.out.1, H.out.2⟩
set_option maxHeartbeats 60000000 in
set_option maxRecDepth 20000 in
theorem close_ft (w : World) (gb : Nat) (D E : Value) (t : It) (hB : Blk gb IT (t.cs D E) w) (h2 : t.v2 = false) (h3 : t.v3 = true) :
    Calls Tryd.prog 40 #[.pointer (some ⟨gb, 0, none⟩)] w (StP gb D E (.tuple #[]) { t with cd := true, op := 2, q0 := t.e, q1 := t.a, q2 := (0, 0) } w) := by
  have c20 := hB.cell (i := 20) (u := .bool false) (by rw [← h2]; rfl)
  have c21 := hB.cell (i := 21) (u := .bool true) (by rw [← h3]; rfl)
  have c18 := hB.cell (i := 18) rfl
  have cf := hB.frozen
  have HV := Lib.hid hB
  clear hB h2 h3
  go_enter Tryd.func40, Tryd.ntmps40
  go_wp2
  refine Stl.region 13 (by kernel_rfl) (by kernel_rfl) (by kernel_rfl) (fun X hX => ?_)
  have hBX : Blk gb IT (({ t with cd := true } : It).cs D E) X := by rw [← hX]; exact HV.out.set_ 18 (.bool true)
  have hgX : w.grownBy X (some gb) := by rw [← hX]; exact gdrew (gset w gb 18 (.bool true))
  have kf := hBX.frozen
  have k28 := hBX.cell (i := 28) rfl
  have k29 := hBX.cell (i := 29) rfl
  have k30 := hBX.cell (i := 30) rfl
  have k31 := hBX.cell (i := 31) rfl
  have k32 := hBX.cell (i := 32) rfl
  have k33 := hBX.cell (i := 33) rfl
  have k34 := hBX.cell (i := 34) rfl
  have k22 := hBX.cell (i := 22) rfl
  have k23 := hBX.cell (i := 23) rfl
  have k26 := hBX.cell (i := 26) rfl
  have k27 := hBX.cell (i := 27) rfl
  have H := Lib.hid (seg_set hBX hgX 2 t.e t.a (0, 0))
  clear hX hBX hgX HV cf c20 c21 c18
  simp only [List.take_succ_cons, List.take_zero, List.drop_succ_cons, List.drop_zero]
  repeat (refine Stl.step (fun K hK => ?_); go_simp; refine hK _ ?_; clear hK K)
  refine Stl.nil ?_
  go_wp2
  go_end0
  exact ⟨rfl, H.out.1, H.out.2⟩
set_option maxHeartbeats 60000000 in
set_option maxRecDepth 20000 in
theorem close_tf (w : World) (gb : Nat) (D E : Value) (t : It) (hB : Blk gb IT (t.cs D E) w) (h2 : t.v2 = true) (h3 : t.v3 = false) :
    Calls Tryd.prog 40 #[.pointer (some ⟨gb, 0, none⟩)] w (StP gb D E (.tuple #[]) { t with cd := true, op := 2, q0 := t.b, q1 := t.a, q2 := (0, 0) } w) := by
  have c20 := hB.cell (i := 20) (u := .bool true) (by rw [← h2]; rfl)
  have c21 := hB.cell (i := 21) (u := .bool false) (by rw [← h3]; rfl)
  have c18 := hB.cell (i := 18) rfl
  have cf := hB.frozen
  have HV := Lib.hid hB
  clear hB h2 h3
  go_enter Tryd.func40, Tryd.ntmps40
  go_wp2
  refine Stl.region 13 (by kernel_rfl) (by kernel_rfl) (by kernel_rfl) (fun X hX => ?_)
  have hBX : Blk gb IT (({ t with cd := true } : It).cs D E) X := by rw [← hX]; exact HV.out.set_ 18 (.bool true)
  have hgX : w.grownBy X (some gb) := by rw [← hX]; exact gdrew (gset w gb 18 (.bool true))
  have kf := hBX.frozen
  have k28 := hBX.cell (i := 28) rfl
  have k29 := hBX.cell (i := 29) rfl
  have k30 := hBX.cell (i := 30) rfl
  have k31 := hBX.cell (i := 31) rfl
  have k32 := hBX.cell (i := 32) rfl
  have k33 := hBX.cell (i := 33) rfl
  have k34 := hBX.cell (i := 34) rfl
  have k22 := hBX.cell (i := 22) rfl
  have k23 := hBX.cell (i := 23) rfl
  have k24 := hBX.cell (i := 24) rfl
  have k25 := hBX.cell (i := 25) rfl
  have H := Lib.hid (seg_set hBX hgX 2 t.b t.a (0, 0))
  clear hX hBX hgX HV cf c20 c21 c18
  simp only [List.take_succ_cons, List.take_zero, List.drop_succ_cons, List.drop_zero]
  repeat (refine Stl.step (fun K hK => ?_); go_simp; refine hK _ ?_; clear hK K)
  refine Stl.nil ?_
  go_wp2
  go_end0
  exact ⟨rfl, H.out.1, H.out.2⟩
set_option maxHeartbeats 60000000 in
set_option maxRecDepth 20000 in
theorem close_tt (w : World) (gb : Nat) (D E : Value) (t : It) (hB : Blk gb IT (t.cs D E) w) (h2 : t.v2 = true) (h3 : t.v3 = true) (hp1 : Bp t.e) (hp2 : Bp t.b) :
    Calls Tryd.prog 40 #[.pointer (some ⟨gb, 0, none⟩)] w (StP gb D E (.tuple #[]) { t with v3 := false, op := 2, q0 := t.e, q1 := mid t.e t.b, q2 := (0, 0) } w) := by
  have c20 := hB.cell (i := 20) (u := .bool true) (by rw [← h2]; rfl)
  have c21 := hB.cell (i := 21) (u := .bool true) (by rw [← h3]; rfl)
  have c18 := hB.cell (i := 18) rfl
  have cf := hB.frozen
  have HV := Lib.hid hB
  clear hB h2 h3
  go_enter Tryd.func40, Tryd.ntmps40
  go_wp2
  refine Tail.start (S := (fun w' => Blk gb IT (({ t with v3 := false } : It).cs D E) w' ∧ w.grownBy w' (some gb))) (tl := [18]) (by kernel_rfl) ⟨HV.out.set_ 21 (.bool false), gdrew (gset w gb 21 (.bool false))⟩ (fun hHeld => ?_)
  refine Tail.take (i := 0) (v := ?vq1) rfl (by kernel_rfl) (by kernel_rfl) (by kernel_rfl) (by kernel_rfl) (by kernel_rfl) (fun _ _ _ h => h) (Or.inl ⟨by rfl, ?hyq1⟩) (by assumption) ?restq1
  case hyq1 => (intro w1 hS; go_simp <;> with_reducible rfl)
  try simp only [Act.put, List.getElem_toArray, List.getElem_cons_zero, List.getElem_cons_succ, List.setIfInBounds_toArray, List.set_cons_zero, List.set_cons_succ]
  refine Tail.take (i := 1) (v := ?vq2) rfl (by kernel_rfl) (by kernel_rfl) (by kernel_rfl) (by kernel_rfl) (by kernel_rfl) (fun _ _ _ h => h) (Or.inl ⟨by rfl, ?hyq2⟩) (by assumption) ?restq2
  case hyq2 => (intro w1 hS; go_simp <;> with_reducible rfl)
  try simp only [Act.put, List.getElem_toArray, List.getElem_cons_zero, List.getElem_cons_succ, List.setIfInBounds_toArray, List.set_cons_zero, List.set_cons_succ]
  refine Tail.take (i := 2) (v := ?vq3) rfl (by kernel_rfl) (by kernel_rfl) (by kernel_rfl) (by kernel_rfl) (by kernel_rfl) (fun _ _ _ h => h) (Or.inl ⟨by rfl, ?hyq3⟩) (by assumption) ?restq3
  case hyq3 => (intro w1 hS; go_simp <;> with_reducible rfl)
  try simp only [Act.put, List.getElem_toArray, List.getElem_cons_zero, List.getElem_cons_succ, List.setIfInBounds_toArray, List.set_cons_zero, List.set_cons_succ]
  refine Tail.take (i := 3) (v := ?vq4) rfl (by kernel_rfl) (by kernel_rfl) (by kernel_rfl) (by kernel_rfl) (by kernel_rfl) (fun _ _ _ h => h) (Or.inl ⟨by rfl, ?hyq4⟩) (by assumption) ?restq4
  case hyq4 => (intro w1 hS; go_simp <;> with_reducible rfl)
  try simp only [Act.put, List.getElem_toArray, List.getElem_cons_zero, List.getElem_cons_succ, List.setIfInBounds_toArray, List.set_cons_zero, List.set_cons_succ]
  refine Tail.take (i := 4) (v := ?vq5) rfl (by kernel_rfl) (by kernel_rfl) (by kernel_rfl) (by kernel_rfl) (by kernel_rfl) (fun _ _ _ h => h) (Or.inl ⟨by rfl, ?hyq5⟩) (by assumption) ?restq5
  case hyq5 => (intro w1 hS; have k := hS.1.cell (i := 26) rfl; have k2 := hS.1.cell (i := 27) rfl; go_simp <;> with_reducible rfl)
  try simp only [Act.put, List.getElem_toArray, List.getElem_cons_zero, List.getElem_cons_succ, List.setIfInBounds_toArray, List.set_cons_zero, List.set_cons_succ]
  refine Tail.take (i := 5) (v := ?vq6) rfl (by kernel_rfl) (by kernel_rfl) (by kernel_rfl) (by kernel_rfl) (by kernel_rfl) (fun _ _ _ h => h) (Or.inl ⟨by rfl, ?hyq6⟩) (by assumption) ?restq6
  case hyq6 => (intro w1 hS; go_simp <;> with_reducible rfl)
  try simp only [Act.put, List.getElem_toArray, List.getElem_cons_zero, List.getElem_cons_succ, List.setIfInBounds_toArray, List.set_cons_zero, List.set_cons_succ]
  refine Tail.take (i := 6) (v := ?vq7) rfl (by kernel_rfl) (by kernel_rfl) (by kernel_rfl) (by kernel_rfl) (by kernel_rfl) (fun _ _ _ h => h) (Or.inl ⟨by rfl, ?hyq7⟩) (by assumption) ?restq7
  case hyq7 => (intro w1 hS; go_simp <;> with_reducible rfl)
  try simp only [Act.put, List.getElem_toArray, List.getElem_cons_zero, List.getElem_cons_succ, List.setIfInBounds_toArray, List.set_cons_zero, List.set_cons_succ]
  refine Tail.take (i := 7) (v := ?vq8) rfl (by kernel_rfl) (by kernel_rfl) (by kernel_rfl) (by kernel_rfl) (by kernel_rfl) (fun _ _ _ h => h) (Or.inl ⟨by rfl, ?hyq8⟩) (by assumption) ?restq8
  case hyq8 => (intro w1 hS; go_simp <;> with_reducible rfl)
  try simp only [Act.put, List.getElem_toArray, List.getElem_cons_zero, List.getElem_cons_succ, List.setIfInBounds_toArray, List.set_cons_zero, List.set_cons_succ]
  refine Tail.take (i := 8) (v := ?vq9) rfl (by kernel_rfl) (by kernel_rfl) (by kernel_rfl) (by kernel_rfl) (by kernel_rfl) (fun _ _ _ h => h) (Or.inl ⟨by rfl, ?hyq9⟩) (by assumption) ?restq9
  case hyq9 => (intro w1 hS; have k := hS.1.cell (i := 26) rfl; have k2 := hS.1.cell (i := 27) rfl; go_simp <;> with_reducible rfl)
  try simp only [Act.put, List.getElem_toArray, List.getElem_cons_zero, List.getElem_cons_succ, List.setIfInBounds_toArray, List.set_cons_zero, List.set_cons_succ]
  refine Tail.take (i := 9) (v := ?vq10) rfl (by kernel_rfl) (by kernel_rfl) (by kernel_rfl) (by kernel_rfl) (by kernel_rfl) (fun _ _ _ h => h) (Or.inl ⟨by rfl, ?hyq10⟩) (by assumption) ?restq10
  case hyq10 => (intro w1 hS; go_simp <;> with_reducible rfl)
  try simp only [Act.put, List.getElem_toArray, List.getElem_cons_zero, List.getElem_cons_succ, List.setIfInBounds_toArray, List.set_cons_zero, List.set_cons_succ]
  refine Tail.take (i := 10) (v := ?vq11) rfl (by kernel_rfl) (by kernel_rfl) (by kernel_rfl) (by kernel_rfl) (by kernel_rfl) (fun _ _ _ h => h) (Or.inl ⟨by rfl, ?hyq11⟩) (by assumption) ?restq11
  case hyq11 => (intro w1 hS; go_simp <;> with_reducible rfl)
  try simp only [Act.put, List.getElem_toArray, List.getElem_cons_zero, List.getElem_cons_succ, List.setIfInBounds_toArray, List.set_cons_zero, List.set_cons_succ]
  refine Tail.take (i := 11) (v := ?vq12) rfl (by kernel_rfl) (by kernel_rfl) (by kernel_rfl) (by kernel_rfl) (by kernel_rfl) (fun _ _ _ h => h) (Or.inl ⟨by rfl, ?hyq12⟩) (by assumption) ?restq12
  case hyq12 => (intro w1 hS; go_simp <;> with_reducible rfl)
  try simp only [Act.put, List.getElem_toArray, List.getElem_cons_zero, List.getElem_cons_succ, List.setIfInBounds_toArray, List.set_cons_zero, List.set_cons_succ]
  refine Tail.take (i := 12) (v := ?vq13) rfl (by kernel_rfl) (by kernel_rfl) (by kernel_rfl) (by kernel_rfl) (by kernel_rfl) (fun _ _ _ h => h) (Or.inl ⟨by rfl, ?hyq13⟩) (by assumption) ?restq13
  case hyq13 => (intro w1 hS; have k := hS.1.cell (i := 24) rfl; have k2 := hS.1.cell (i := 25) rfl; go_simp <;> with_reducible rfl)
  try simp only [Act.put, List.getElem_toArray, List.getElem_cons_zero, List.getElem_cons_succ, List.setIfInBounds_toArray, List.set_cons_zero, List.set_cons_succ]
  refine Tail.ready (rs := [13]) (by kernel_rfl) (by simp) (Tail.AllReadyL.cons rfl (fun K hK => ?_) Tail.AllReadyL.nil)
  go_simp
  refine (mid_bel t.e t.b _ hp1 hp2).mono ?_
  rintro e w1 ⟨rfl, hb⟩
  refine hK.out _ _ ⟨hHeld.1.keep hb, gtr hHeld.2 (gbel hb _)⟩ (fun hHeld => ?_)
  clear hb
  clear hK K
  try simp only [Act.put, List.getElem_toArray, List.getElem_cons_zero, List.getElem_cons_succ, List.setIfInBounds_toArray, List.set_cons_zero, List.set_cons_succ]
  refine Tail.ready (rs := [14]) (by kernel_rfl) (by simp) (Tail.AllReadyL.cons rfl (fun K hK => ?_) Tail.AllReadyL.nil)
  go_simp
  refine hK.out _ _ hHeld (fun hHeld => ?_)
  clear hK K
  try simp only [Act.put, List.getElem_toArray, List.getElem_cons_zero, List.getElem_cons_succ, List.setIfInBounds_toArray, List.set_cons_zero, List.set_cons_succ]
  refine Tail.ready (rs := [15]) (by kernel_rfl) (by simp) (Tail.AllReadyL.cons rfl (fun K hK => ?_) Tail.AllReadyL.nil)
  go_simp
  refine hK.out _ _ hHeld (fun hHeld => ?_)
  clear hK K
  try simp only [Act.put, List.getElem_toArray, List.getElem_cons_zero, List.getElem_cons_succ, List.setIfInBounds_toArray, List.set_cons_zero, List.set_cons_succ]
  refine Tail.ready (rs := [16]) (by kernel_rfl) (by simp) (Tail.AllReadyL.cons rfl (fun K hK => ?_) Tail.AllReadyL.nil)
  go_simp
  refine hK.out _ _ hHeld (fun hHeld => ?_)
  clear hK K
  try simp only [Act.put, List.getElem_toArray, List.getElem_cons_zero, List.getElem_cons_succ, List.setIfInBounds_toArray, List.set_cons_zero, List.set_cons_succ]
  refine Tail.ready (rs := [17]) (by kernel_rfl) (by simp) (Tail.AllReadyL.cons rfl (fun K hK => ?_) Tail.AllReadyL.nil)
  go_simp
  refine hK.out _ _ hHeld (fun hHeld => ?_)
  clear hK K
  try simp only [Act.put, List.getElem_toArray, List.getElem_cons_zero, List.getElem_cons_succ, List.setIfInBounds_toArray, List.set_cons_zero, List.set_cons_succ]
  refine Tail.ready (rs := [18]) (by kernel_rfl) (by simp) (Tail.AllReadyL.last rfl (by rfl) (fun K hK => ?_) Tail.AllReadyL.nil)
  have hBX := hHeld.1
  have kf := hBX.frozen
  have k28 := hBX.cell (i := 28) rfl
  have k29 := hBX.cell (i := 29) rfl
  have k30 := hBX.cell (i := 30) rfl
  have k31 := hBX.cell (i := 31) rfl
  have k32 := hBX.cell (i := 32) rfl
  have k33 := hBX.cell (i := 33) rfl
  have k34 := hBX.cell (i := 34) rfl
  have H := Lib.hid (seg_set hHeld.1 hHeld.2 2 t.e (mid t.e t.b) (0, 0))
  clear hBX hHeld
  go_simp
  refine hK.out _ _ ?_
  clear hK K
  try simp only [Act.put, List.getElem_toArray, List.getElem_cons_zero, List.getElem_cons_succ, List.setIfInBounds_toArray, List.set_cons_zero, List.set_cons_succ]
  refine Tail.done (by kernel_rfl) ?_ _
  go_wp2
  go_end0
  exact ⟨rfl, H.out.1, H.out.2⟩
end Go.Proofs.YtdeaodgcdacleaaDoor.ItE
