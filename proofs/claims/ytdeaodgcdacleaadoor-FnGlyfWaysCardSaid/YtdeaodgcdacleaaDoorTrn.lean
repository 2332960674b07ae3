/- Contracts: a step's places moved, and turned and moved. -/
import Derived.Test.YtdeaodgcdacleaaDoorLdB
import Derived.Test.YtdeaodgcdacleaaDoorStl
import Derived.Test.YtdeaodgcdacleaaDoorTail
import Derived.Test.YtdeaodgcdacleaaDoorGate
import Derived.Test.YtdeaodgcdacleaaDoorItE
namespace Go.Proofs.YtdeaodgcdacleaaDoor.Trn
open Go.ChangeShapes Go.WideShapes Go.ChangeAt Go.RowKit
open Lst Mem RowG SpecB GlyM ItC PthA LdB
set_option linter.unusedSimpArgs false
set_option linter.unusedVariables false
/-- six cells of three places -/
def c6 (a b c : Pt) : List Value := [.int .i32 a.1, .int .i32 a.2, .int .i32 b.1, .int .i32 b.2, .int .i32 c.1, .int .i32 c.2]
/-- a block whose cells from o on are six numbers -/
def Six (h o : Nat) (pre post : List Value) (a b c : Pt) (w : World) : Prop := Blk h ST (pre ++ c6 a b c ++ post) w ∧ pre.length = o
theorem Six.cell {h o : Nat} {pre post : List Value} {a b c : Pt} {w : World} (hs : Six h o pre post a b c w) (j : Nat) (hj : j < 6) {u : Value} (hu : (c6 a b c)[j]? = some u) : w.cell? ⟨h, o + j, none⟩ = some u := by
  refine hs.1.cell ?_
  rw [← hs.2, List.append_assoc, List.getElem?_append_right (by omega), Nat.add_sub_cancel_left, List.getElem?_append_left (by simpa [c6] using hj)]
  exact hu
theorem Six.set_ {h o : Nat} {pre post : List Value} {a b c a' b' c' : Pt} {w : World} (hs : Six h o pre post a b c w) (j : Nat) (hj : j < 6) (u : Value) (hu : (c6 a b c).set j u = c6 a' b' c') : Six h o pre post a' b' c' (w.setCell ⟨h, o + j, none⟩ u) := by
  refine ⟨?_, hs.2⟩
  have := hs.1.set_ (o + j) u
  rw [← hs.2, List.append_assoc, List.set_append_right _ _ (by omega), Nat.add_sub_cancel_left, List.set_append_left _ _ (by simpa [c6] using hj), hu, ← List.append_assoc] at this
  rw [← hs.2]
  exact this
theorem Six.drew {h o : Nat} {pre post : List Value} {a b c : Pt} {w : World} (hs : Six h o pre post a b c w) : Six h o pre post a b c w.drew := hs
theorem Six.below {h o : Nat} {pre post : List Value} {a b c : Pt} {w w' : World} (hs : Six h o pre post a b c w) (hb : Below w.heap.size w w') : Six h o pre post a b c w' := ⟨hs.1.keep hb, hs.2⟩
def SixP (h o : Nat) (pre post : List Value) (a b c : Pt) (W : World) (e : Ending) (w' : World) : Prop := e = .returned (.tuple #[]) ∧ Six h o pre post a b c w' ∧ W.grownBy w' (some h)
def Sm (p : Pt) : Prop := (-100000 ≤ p.1 ∧ p.1 ≤ 100000) ∧ (-100000 ≤ p.2 ∧ p.2 ≤ 100000)
set_option maxHeartbeats 60000000 in
set_option maxRecDepth 20000 in
theorem translate_any (h o : Nat) (pre post : List Value) (a b c : Pt) (dx dy : Int) (w : World) (hs : Six h o pre post a b c w) (ha : Sm a) (hb : Sm b) (hc : Sm c) (hx : -100000 ≤ dx ∧ dx ≤ 100000) (hy : -100000 ≤ dy ∧ dy ≤ 100000) :
    Calls Tryd.prog 38 #[.pointer (some ⟨h, o, none⟩), .int .i32 dx, .int .i32 dy] w (SixP h o pre post (a.1 + dx, a.2 + dy) (b.1 + dx, b.2 + dy) (c.1 + dx, c.2 + dy) w) := by
  obtain ⟨⟨a1, a2⟩, a3, a4⟩ := ha
  obtain ⟨⟨b1, b2⟩, b3, b4⟩ := hb
  obtain ⟨⟨c1, c2⟩, c3, c4⟩ := hc
  have HG := Lib.hid (show w.grownBy w (some h) from ⟨rfl, rfl, rfl, Nat.le_refl _, fun _ _ _ => rfl⟩)
  have HS := Lib.hid hs
  clear hs
  go_enter Tryd.func38, Tryd.ntmps38
  go_wp2_with fail
  refine Stl.region 10 (by kernel_rfl) (by kernel_rfl) (by kernel_rfl) (fun X0 hX => ?_)
  have hS : Six h o pre post (a.1, a.2) (b.1, b.2) (c.1, c.2) X0 := by rw [← hX]; exact HS.out
  have hG : w.grownBy X0 (some h) := by rw [← hX]; exact gdrew HG.out
  clear hX HS HG
  have kc : X0.cell? ⟨h, o, none⟩ = some (.int .i32 (a.1)) := hS.cell 0 (by omega) rfl
  have kf := hS.1.frozen
  have w1 : IntKind.i32.wrap (a.1 + dx) = a.1 + dx := IntWalk.i32_in _ (by omega)
  have H := Lib.hid (And.intro (hS.set_ 0 (by omega) (.int .i32 (a.1 + dx)) (a' := (a.1 + dx, a.2)) (b' := (b.1, b.2)) (c' := (c.1, c.2)) rfl) (gtr hG (gset X0 h (o) (.int .i32 (a.1 + dx)))))
  clear hS hG
  simp only [List.take_succ_cons, List.take_zero, List.drop_succ_cons, List.drop_zero]
  repeat (refine Stl.step (fun K hK => ?_); go_simp; refine hK _ ?_; clear hK K)
  refine Stl.nil ?_
  go_upto_region 1 with (fail)
  obtain ⟨Y0, hY⟩ : ∃ Y, Y = X0.setCell ⟨h, o, none⟩ (.int .i32 (a.1 + dx)) := ⟨_, rfl⟩
  have HS : Hid (Six h o pre post (a.1 + dx, a.2) (b.1, b.2) (c.1, c.2) Y0) := Lib.hid (by rw [hY]; exact H.out.1)
  have HG : Hid (w.grownBy Y0 (some h)) := Lib.hid (by rw [hY]; exact H.out.2)
  rw [← hY]
  clear hY H kc kf w1
  go_wp2_with fail
  refine Stl.region 10 (by kernel_rfl) (by kernel_rfl) (by kernel_rfl) (fun X1 hX => ?_)
  have hS : Six h o pre post (a.1 + dx, a.2) (b.1, b.2) (c.1, c.2) X1 := by rw [← hX]; exact HS.out
  have hG : w.grownBy X1 (some h) := by rw [← hX]; exact gdrew HG.out
  clear hX HS HG
  have kc : X1.cell? ⟨h, o + 1, none⟩ = some (.int .i32 (a.2)) := hS.cell 1 (by omega) rfl
  have kf := hS.1.frozen
  have w1 : IntKind.i32.wrap (a.2 + dy) = a.2 + dy := IntWalk.i32_in _ (by omega)
  have H := Lib.hid (And.intro (hS.set_ 1 (by omega) (.int .i32 (a.2 + dy)) (a' := (a.1 + dx, a.2 + dy)) (b' := (b.1, b.2)) (c' := (c.1, c.2)) rfl) (gtr hG (gset X1 h (o + 1) (.int .i32 (a.2 + dy)))))
  clear hS hG
  simp only [List.take_succ_cons, List.take_zero, List.drop_succ_cons, List.drop_zero]
  repeat (refine Stl.step (fun K hK => ?_); go_simp; refine hK _ ?_; clear hK K)
  refine Stl.nil ?_
  go_upto_region 2 with (fail)
  obtain ⟨Y1, hY⟩ : ∃ Y, Y = X1.setCell ⟨h, o + 1, none⟩ (.int .i32 (a.2 + dy)) := ⟨_, rfl⟩
  have HS : Hid (Six h o pre post (a.1 + dx, a.2 + dy) (b.1, b.2) (c.1, c.2) Y1) := Lib.hid (by rw [hY]; exact H.out.1)
  have HG : Hid (w.grownBy Y1 (some h)) := Lib.hid (by rw [hY]; exact H.out.2)
  rw [← hY]
  clear hY H kc kf w1
  go_wp2_with fail
  refine Stl.region 10 (by kernel_rfl) (by kernel_rfl) (by kernel_rfl) (fun X2 hX => ?_)
  have hS : Six h o pre post (a.1 + dx, a.2 + dy) (b.1, b.2) (c.1, c.2) X2 := by rw [← hX]; exact HS.out
  have hG : w.grownBy X2 (some h) := by rw [← hX]; exact gdrew HG.out
  clear hX HS HG
  have kc : X2.cell? ⟨h, o + 2, none⟩ = some (.int .i32 (b.1)) := hS.cell 2 (by omega) rfl
  have kf := hS.1.frozen
  have w1 : IntKind.i32.wrap (b.1 + dx) = b.1 + dx := IntWalk.i32_in _ (by omega)
  have H := Lib.hid (And.intro (hS.set_ 2 (by omega) (.int .i32 (b.1 + dx)) (a' := (a.1 + dx, a.2 + dy)) (b' := (b.1 + dx, b.2)) (c' := (c.1, c.2)) rfl) (gtr hG (gset X2 h (o + 2) (.int .i32 (b.1 + dx)))))
  clear hS hG
  simp only [List.take_succ_cons, List.take_zero, List.drop_succ_cons, List.drop_zero]
  repeat (refine Stl.step (fun K hK => ?_); go_simp; refine hK _ ?_; clear hK K)
  refine Stl.nil ?_
  go_upto_region 3 with (fail)
  obtain ⟨Y2, hY⟩ : ∃ Y, Y = X2.setCell ⟨h, o + 2, none⟩ (.int .i32 (b.1 + dx)) := ⟨_, rfl⟩
  have HS : Hid (Six h o pre post (a.1 + dx, a.2 + dy) (b.1 + dx, b.2) (c.1, c.2) Y2) := Lib.hid (by rw [hY]; exact H.out.1)
  have HG : Hid (w.grownBy Y2 (some h)) := Lib.hid (by rw [hY]; exact H.out.2)
  rw [← hY]
  clear hY H kc kf w1
  go_wp2_with fail
  refine Stl.region 10 (by kernel_rfl) (by kernel_rfl) (by kernel_rfl) (fun X3 hX => ?_)
  have hS : Six h o pre post (a.1 + dx, a.2 + dy) (b.1 + dx, b.2) (c.1, c.2) X3 := by rw [← hX]; exact HS.out
  have hG : w.grownBy X3 (some h) := by rw [← hX]; exact gdrew HG.out
  clear hX HS HG
  have kc : X3.cell? ⟨h, o + 3, none⟩ = some (.int .i32 (b.2)) := hS.cell 3 (by omega) rfl
  have kf := hS.1.frozen
  have w1 : IntKind.i32.wrap (b.2 + dy) = b.2 + dy := IntWalk.i32_in _ (by omega)
  have H := Lib.hid (And.intro (hS.set_ 3 (by omega) (.int .i32 (b.2 + dy)) (a' := (a.1 + dx, a.2 + dy)) (b' := (b.1 + dx, b.2 + dy)) (c' := (c.1, c.2)) rfl) (gtr hG (gset X3 h (o + 3) (.int .i32 (b.2 + dy)))))
  clear hS hG
  simp only [List.take_succ_cons, List.take_zero, List.drop_succ_cons, List.drop_zero]
  repeat (refine Stl.step (fun K hK => ?_); go_simp; refine hK _ ?_; clear hK K)
  refine Stl.nil ?_
  go_upto_region 4 with (fail)
  obtain ⟨Y3, hY⟩ : ∃ Y, Y = X3.setCell ⟨h, o + 3, none⟩ (.int .i32 (b.2 + dy)) := ⟨_, rfl⟩
  have HS : Hid (Six h o pre post (a.1 + dx, a.2 + dy) (b.1 + dx, b.2 + dy) (c.1, c.2) Y3) := Lib.hid (by rw [hY]; exact H.out.1)
  have HG : Hid (w.grownBy Y3 (some h)) := Lib.hid (by rw [hY]; exact H.out.2)
  rw [← hY]
  clear hY H kc kf w1
  go_wp2_with fail
  refine Stl.region 10 (by kernel_rfl) (by kernel_rfl) (by kernel_rfl) (fun X4 hX => ?_)
  have hS : Six h o pre post (a.1 + dx, a.2 + dy) (b.1 + dx, b.2 + dy) (c.1, c.2) X4 := by rw [← hX]; exact HS.out
  have hG : w.grownBy X4 (some h) := by rw [← hX]; exact gdrew HG.out
  clear hX HS HG
  have kc : X4.cell? ⟨h, o + 4, none⟩ = some (.int .i32 (c.1)) := hS.cell 4 (by omega) rfl
  have kf := hS.1.frozen
  have w1 : IntKind.i32.wrap (c.1 + dx) = c.1 + dx := IntWalk.i32_in _ (by omega)
  have H := Lib.hid (And.intro (hS.set_ 4 (by omega) (.int .i32 (c.1 + dx)) (a' := (a.1 + dx, a.2 + dy)) (b' := (b.1 + dx, b.2 + dy)) (c' := (c.1 + dx, c.2)) rfl) (gtr hG (gset X4 h (o + 4) (.int .i32 (c.1 + dx)))))
  clear hS hG
  simp only [List.take_succ_cons, List.take_zero, List.drop_succ_cons, List.drop_zero]
  repeat (refine Stl.step (fun K hK => ?_); go_simp; refine hK _ ?_; clear hK K)
  refine Stl.nil ?_
  go_upto_region 5 with (fail)
  obtain ⟨Y4, hY⟩ : ∃ Y, Y = X4.setCell ⟨h, o + 4, none⟩ (.int .i32 (c.1 + dx)) := ⟨_, rfl⟩
  have HS : Hid (Six h o pre post (a.1 + dx, a.2 + dy) (b.1 + dx, b.2 + dy) (c.1 + dx, c.2) Y4) := Lib.hid (by rw [hY]; exact H.out.1)
  have HG : Hid (w.grownBy Y4 (some h)) := Lib.hid (by rw [hY]; exact H.out.2)
  rw [← hY]
  clear hY H kc kf w1
  go_wp2_with fail
  refine Stl.region 10 (by kernel_rfl) (by kernel_rfl) (by kernel_rfl) (fun X5 hX => ?_)
  have hS : Six h o pre post (a.1 + dx, a.2 + dy) (b.1 + dx, b.2 + dy) (c.1 + dx, c.2) X5 := by rw [← hX]; exact HS.out
  have hG : w.grownBy X5 (some h) := by rw [← hX]; exact gdrew HG.out
  clear hX HS HG
  have kc : X5.cell? ⟨h, o + 5, none⟩ = some (.int .i32 (c.2)) := hS.cell 5 (by omega) rfl
  have kf := hS.1.frozen
  have w1 : IntKind.i32.wrap (c.2 + dy) = c.2 + dy := IntWalk.i32_in _ (by omega)
  have H := Lib.hid (And.intro (hS.set_ 5 (by omega) (.int .i32 (c.2 + dy)) (a' := (a.1 + dx, a.2 + dy)) (b' := (b.1 + dx, b.2 + dy)) (c' := (c.1 + dx, c.2 + dy)) rfl) (gtr hG (gset X5 h (o + 5) (.int .i32 (c.2 + dy)))))
  clear hS hG
  simp only [List.take_succ_cons, List.take_zero, List.drop_succ_cons, List.drop_zero]
  repeat (refine Stl.step (fun K hK => ?_); go_simp; refine hK _ ?_; clear hK K)
  refine Stl.nil ?_
  go_wp2
  go_end0
  exact ⟨rfl, H.out.1, H.out.2⟩
/-- one number of the turned place -/
def co (d p q : Int) : Int := d + (p + 8192) / 16384 + (q + 8192) / 16384
set_option maxHeartbeats 1000000 in
theorem tform_at (xx xy yx yy dx dy x y : Int) (w : World) (bx : -2147483648 ≤ x ∧ x ≤ 2147483647) (bY : -2147483648 ≤ y ∧ y ≤ 2147483647)
    (c1 : -32768 ≤ xx ∧ xx ≤ 32767) (c2 : -32768 ≤ xy ∧ xy ≤ 32767) (c3 : -32768 ≤ yx ∧ yx ≤ 32767) (c4 : -32768 ≤ yy ∧ yy ≤ 32767) (c5 : -32768 ≤ dx ∧ dx ≤ 32767) (c6 : -32768 ≤ dy ∧ dy ≤ 32767)
    (h1 : -4294967296 ≤ x * xx ∧ x * xx ≤ 4294967296) (h2 : -4294967296 ≤ y * yx ∧ y * yx ≤ 4294967296) (h3 : -4294967296 ≤ x * xy ∧ x * xy ≤ 4294967296) (h4 : -4294967296 ≤ y * yy ∧ y * yy ≤ 4294967296) :
    Calls Tryd.prog 44 #[.int .i16 xx, .int .i16 xy, .int .i16 yx, .int .i16 yy, .int .i32 dx, .int .i32 dy, .agg #[.int .i32 x, .int .i32 y]] w fun e w' => e = .returned (.agg #[.int .i32 (co dx (x * xx) (y * yx)), .int .i32 (co dy (x * xy) (y * yy))]) ∧
      (w.alloc (Obj.cells #[.int .i32 x, .int .i32 y] 142)).alloc (Obj.cells #[.int .i32 (co dx (x * xx) (y * yx)), .int .i32 (co dy (x * xy) (y * yy))] 142) = w' := by
  have H1 := Lib.hid (show co dx (x * xx) (y * yx) = dx + (x * xx + 8192) / 16384 + (y * yx + 8192) / 16384 from rfl)
  have H2 := Lib.hid (show co dy (x * xy) (y * yy) = dy + (x * xy + 8192) / 16384 + (y * yy + 8192) / 16384 from rfl)
  go_enter Tryd.func44, Tryd.ntmps44
  go_wp2
  rw [H1.out, H2.out]
  exact bodyPost_ret (v := .agg #[.int .i32 (dx + (x * xx + 8192) / 16384 + (y * yx + 8192) / 16384), .int .i32 (dy + (x * xy + 8192) / 16384 + (y * yy + 8192) / 16384)]) (by simp [results, Tryd.results44, go_sem]) rfl ⟨rfl, rfl⟩
/-- a place turned by quarters of eighths, and moved -/
def tp (sx sy dx dy : Int) (p : Pt) : Pt := (dx + (p.1 * sx).tdiv 4, dy + (p.2 * sy).tdiv 4)
/-- places of multiples of 4 -/
def Q4 (p : Pt) : Prop := ((-4096 ≤ p.1 ∧ p.1 ≤ 4096) ∧ 4 ∣ p.1) ∧ ((-4096 ≤ p.2 ∧ p.2 ≤ 4096) ∧ 4 ∣ p.2)
theorem tdiv_q {x s : Int} (h : 4 ∣ x) : (x * s).tdiv 4 = x / 4 * s := by
  obtain ⟨k, rfl⟩ := h
  rw [Int.mul_assoc, Int.mul_tdiv_cancel_left _ (by decide), Int.mul_ediv_cancel_left _ (by decide)]
theorem co_q {d x s y : Int} (h : 4 ∣ x) (hy : y * 0 = 0) : co d (x * (s * 4096)) (y * 0) = d + (x * s).tdiv 4 := by
  rw [tdiv_q h]
  obtain ⟨k, rfl⟩ := h
  rw [Int.mul_ediv_cancel_left _ (by decide), hy]
  unfold co
  have e : 4 * k * (s * 4096) = 16384 * (k * s) := by
    rw [Int.mul_comm s 4096, ← Int.mul_assoc, Int.mul_right_comm 4 k 4096, Int.mul_assoc]
    rfl
  rw [e]
  omega
theorem co_q' {d x s y : Int} (h : 4 ∣ x) (hy : y * 0 = 0) : co d (y * 0) (x * (s * 4096)) = d + (x * s).tdiv 4 := by
  rw [← co_q (d := d) (s := s) h hy]
  unfold co
  omega
theorem mul_bd {x s : Int} (h : -4096 ≤ x ∧ x ≤ 4096) (hs : -8 ≤ s ∧ s ≤ 7) : -4294967296 ≤ x * (s * 4096) ∧ x * (s * 4096) ≤ 4294967296 := by
  have := PthC.mulb h hs
  rw [← Int.mul_assoc]
  omega
theorem tform_q (sx sy dx dy : Int) (p : Pt) (w : World) (hp : Q4 p) (hsx : -8 ≤ sx ∧ sx ≤ 7) (hsy : -8 ≤ sy ∧ sy ≤ 7) (hx : -32768 ≤ dx ∧ dx ≤ 32767) (hy : -32768 ≤ dy ∧ dy ≤ 32767) :
    Calls Tryd.prog 44 #[.int .i16 (sx * 4096), .int .i16 0, .int .i16 0, .int .i16 (sy * 4096), .int .i32 dx, .int .i32 dy, .agg #[.int .i32 p.1, .int .i32 p.2]] w fun e w' => e = .returned (.agg #[.int .i32 (tp sx sy dx dy p).1, .int .i32 (tp sx sy dx dy p).2]) ∧ Below w.heap.size w w' := by
  obtain ⟨⟨h1, h2⟩, h3, h4⟩ := hp
  have a1 := mul_bd h1 hsx
  have a2 := mul_bd h3 hsy
  have H := tform_at (sx * 4096) 0 0 (sy * 4096) dx dy p.1 p.2 w (by omega) (by omega) (by omega) (by omega) (by omega) (by omega) hx hy a1 (by omega) (by omega) a2
  rw [co_q h2 (by omega), co_q' h4 (by omega)] at H
  refine H.mono ?_
  rintro e w' ⟨he, rfl⟩
  exact ⟨he, ((Below.refl _ _).alloc (Nat.le_refl _) _).alloc (by simp) _⟩
set_option maxHeartbeats 60000000 in
set_option maxRecDepth 20000 in
theorem transform_any (h o : Nat) (pre post : List Value) (a b c : Pt) (sx sy dx dy : Int) (w : World) (hs : Six h o pre post a b c w) (ha : Q4 a) (hb : Q4 b) (hc : Q4 c) (hsx : -8 ≤ sx ∧ sx ≤ 7) (hsy : -8 ≤ sy ∧ sy ≤ 7) (hx : -32768 ≤ dx ∧ dx ≤ 32767) (hy : -32768 ≤ dy ∧ dy ≤ 32767) :
    Calls Tryd.prog 37 #[.pointer (some ⟨h, o, none⟩), .int .i16 (sx * 4096), .int .i16 0, .int .i16 0, .int .i16 (sy * 4096), .int .i32 dx, .int .i32 dy] w (SixP h o pre post (tp sx sy dx dy a) (tp sx sy dx dy b) (tp sx sy dx dy c) w) := by
  have HG := Lib.hid (show w.grownBy w (some h) from ⟨rfl, rfl, rfl, Nat.le_refl _, fun _ _ _ => rfl⟩)
  have HS := Lib.hid hs
  have HT := fun (p : Pt) (hp : Q4 p) (W : World) => tform_q sx sy dx dy p W hp hsx hsy hx hy
  have HTa := Lib.hid (HT a ha)
  have HTb := Lib.hid (HT b hb)
  have HTc := Lib.hid (HT c hc)
  clear hs HT ha hb hc
  obtain ⟨fx, hfx⟩ : ∃ f, f = sx * 4096 := ⟨_, rfl⟩
  obtain ⟨fy, hfy⟩ : ∃ f, f = sy * 4096 := ⟨_, rfl⟩
  rw [← hfx, ← hfy] at HTa HTb HTc
  rw [← hfx, ← hfy]
  clear hfx hfy
  go_enter Tryd.func37, Tryd.ntmps37
  go_wp2_with fail
  refine Tail.start (S := (fun w' => Six h o pre post a b c w' ∧ w.grownBy w' (some h))) (tl := [14]) (by kernel_rfl) ⟨HS.out.drew, gdrew HG.out⟩ (fun hHeld => ?_)
  refine Tail.take (i := 0) (v := ?vq1) rfl (by kernel_rfl) (by kernel_rfl) (by kernel_rfl) (by kernel_rfl) (by kernel_rfl) (fun _ _ _ h => h) (Or.inl ⟨by rfl, ?hyq1⟩) (by assumption) ?restq1
  case hyq1 => (intro w1 hS; go_simp <;> with_reducible rfl)
  try simp only [Act.put, List.getElem_toArray, List.getElem_cons_zero, List.getElem_cons_succ, List.setIfInBounds_toArray, List.set_cons_zero, List.set_cons_succ]
  refine Tail.take (i := 1) (v := ?vq2) rfl (by kernel_rfl) (by kernel_rfl) (by kernel_rfl) (by kernel_rfl) (by kernel_rfl) (fun _ _ _ h => h) (Or.inl ⟨by rfl, ?hyq2⟩) (by assumption) ?restq2
  case hyq2 => (intro w1 hS; go_simp <;> with_reducible rfl)
  try simp only [Act.put, List.getElem_toArray, List.getElem_cons_zero, List.getElem_cons_succ, List.setIfInBounds_toArray, List.set_cons_zero, List.set_cons_succ]
  refine Tail.take (i := 2) (v := ?vq3) rfl (by kernel_rfl) (by kernel_rfl) (by kernel_rfl) (by kernel_rfl) (by kernel_rfl) (fun _ _ _ h => h) (Or.inl ⟨by rfl, ?hyq3⟩) (by assumption) ?restq3
  case hyq3 => (intro w1 hS; go_simp <;> with_reducible rfl)
  try simp only [Act.put, List.getElem_toArray, List.getElem_cons_zero, List.getElem_cons_succ, List.setIfInBounds_toArray, List.set_cons_zero, List.set_cons_succ]
  refine Tail.take (i := 3) (v := ?vq4) rfl (by kernel_rfl) (by kernel_rfl) (by kernel_rfl) (by kernel_rfl) (by kernel_rfl) (fun _ _ _ h => h) (Or.inl ⟨by rfl, ?hyq4⟩) (by assumption) ?restq4
  case hyq4 => (intro w1 hS; go_simp <;> with_reducible rfl)
  try simp only [Act.put, List.getElem_toArray, List.getElem_cons_zero, List.getElem_cons_succ, List.setIfInBounds_toArray, List.set_cons_zero, List.set_cons_succ]
  refine Tail.take (i := 4) (v := ?vq5) rfl (by kernel_rfl) (by kernel_rfl) (by kernel_rfl) (by kernel_rfl) (by kernel_rfl) (fun _ _ _ h => h) (Or.inl ⟨by rfl, ?hyq5⟩) (by assumption) ?restq5
  case hyq5 => (intro w1 hS; go_simp <;> with_reducible rfl)
  try simp only [Act.put, List.getElem_toArray, List.getElem_cons_zero, List.getElem_cons_succ, List.setIfInBounds_toArray, List.set_cons_zero, List.set_cons_succ]
  refine Tail.take (i := 5) (v := ?vq6) rfl (by kernel_rfl) (by kernel_rfl) (by kernel_rfl) (by kernel_rfl) (by kernel_rfl) (fun _ _ _ h => h) (Or.inl ⟨by rfl, ?hyq6⟩) (by assumption) ?restq6
  case hyq6 => (intro w1 hS; go_simp <;> with_reducible rfl)
  try simp only [Act.put, List.getElem_toArray, List.getElem_cons_zero, List.getElem_cons_succ, List.setIfInBounds_toArray, List.set_cons_zero, List.set_cons_succ]
  refine Tail.take (i := 6) (v := ?vq7) rfl (by kernel_rfl) (by kernel_rfl) (by kernel_rfl) (by kernel_rfl) (by kernel_rfl) (fun _ _ _ h => h) (Or.inl ⟨by rfl, ?hyq7⟩) (by assumption) ?restq7
  case hyq7 => (intro w1 hS; go_simp <;> with_reducible rfl)
  try simp only [Act.put, List.getElem_toArray, List.getElem_cons_zero, List.getElem_cons_succ, List.setIfInBounds_toArray, List.set_cons_zero, List.set_cons_succ]
  refine Tail.take (i := 7) (v := ?vq8) rfl (by kernel_rfl) (by kernel_rfl) (by kernel_rfl) (by kernel_rfl) (by kernel_rfl) (fun _ _ _ h => h) (Or.inl ⟨by rfl, ?hyq8⟩) (by assumption) ?restq8
  case hyq8 => (intro w1 hS; go_simp <;> with_reducible rfl)
  try simp only [Act.put, List.getElem_toArray, List.getElem_cons_zero, List.getElem_cons_succ, List.setIfInBounds_toArray, List.set_cons_zero, List.set_cons_succ]
  refine Tail.take (i := 8) (v := ?vq9) rfl (by kernel_rfl) (by kernel_rfl) (by kernel_rfl) (by kernel_rfl) (by kernel_rfl) (fun _ _ _ h => h) (Or.inl ⟨by rfl, ?hyq9⟩) (by assumption) ?restq9
  case hyq9 => (intro w1 hS; go_simp <;> with_reducible rfl)
  try simp only [Act.put, List.getElem_toArray, List.getElem_cons_zero, List.getElem_cons_succ, List.setIfInBounds_toArray, List.set_cons_zero, List.set_cons_succ]
  refine Tail.take (i := 9) (v := ?vq10) rfl (by kernel_rfl) (by kernel_rfl) (by kernel_rfl) (by kernel_rfl) (by kernel_rfl) (fun _ _ _ h => h) (Or.inl ⟨by rfl, ?hyq10⟩) (by assumption) ?restq10
  case hyq10 => (intro w1 hS; go_simp <;> with_reducible rfl)
  try simp only [Act.put, List.getElem_toArray, List.getElem_cons_zero, List.getElem_cons_succ, List.setIfInBounds_toArray, List.set_cons_zero, List.set_cons_succ]
  refine Tail.take (i := 10) (v := ?vq11) rfl (by kernel_rfl) (by kernel_rfl) (by kernel_rfl) (by kernel_rfl) (by kernel_rfl) (fun _ _ _ h => h) (Or.inl ⟨by rfl, ?hyq11⟩) (by assumption) ?restq11
  case hyq11 => (intro w1 hS; have k : w1.cell? ⟨h, o, none⟩ = some (.int .i32 a.1) := hS.1.cell 0 (by omega) rfl; have k2 : w1.cell? ⟨h, o + 1, none⟩ = some (.int .i32 a.2) := hS.1.cell 1 (by omega) rfl; go_simp <;> with_reducible rfl)
  try simp only [Act.put, List.getElem_toArray, List.getElem_cons_zero, List.getElem_cons_succ, List.setIfInBounds_toArray, List.set_cons_zero, List.set_cons_succ]
  refine Tail.take (i := 12) (v := ?vq12) rfl (by kernel_rfl) (by kernel_rfl) (by kernel_rfl) (by kernel_rfl) (by kernel_rfl) (fun _ _ _ h => h) (Or.inl ⟨by rfl, ?hyq12⟩) (by assumption) ?restq12
  case hyq12 => (intro w1 hS; go_simp <;> with_reducible rfl)
  try simp only [Act.put, List.getElem_toArray, List.getElem_cons_zero, List.getElem_cons_succ, List.setIfInBounds_toArray, List.set_cons_zero, List.set_cons_succ]
  refine Tail.ready (rs := [11]) (by kernel_rfl) (by simp) (Tail.AllReadyL.cons rfl (fun K hK => ?_) Tail.AllReadyL.nil)
  go_simp
  refine (HTa.out _).mono ?_
  rintro e w1 ⟨rfl, hb⟩
  refine hK.out _ _ ⟨hHeld.1.below hb, gtr hHeld.2 (ItE.gbel hb _)⟩ (fun hHeld => ?_)
  clear hb
  clear hK K
  try simp only [Act.put, List.getElem_toArray, List.getElem_cons_zero, List.getElem_cons_succ, List.setIfInBounds_toArray, List.set_cons_zero, List.set_cons_succ]
  refine Tail.ready (rs := [13]) (by kernel_rfl) (by simp) (Tail.AllReadyL.cons rfl (fun K hK => ?_) Tail.AllReadyL.nil)
  go_simp
  refine hK.out _ _ hHeld (fun hHeld => ?_)
  clear hK K
  try simp only [Act.put, List.getElem_toArray, List.getElem_cons_zero, List.getElem_cons_succ, List.setIfInBounds_toArray, List.set_cons_zero, List.set_cons_succ]
  refine Tail.ready (rs := [14]) (by kernel_rfl) (by simp) (Tail.AllReadyL.last rfl (by rfl) (fun K hK => ?_) Tail.AllReadyL.nil)
  have c0 : w1.cell? ⟨h, o, none⟩ = some (.int .i32 a.1) := hHeld.1.cell 0 (by omega) rfl
  have c1 : w1.cell? ⟨h, o + 1, none⟩ = some (.int .i32 a.2) := hHeld.1.cell 1 (by omega) rfl
  have kf := hHeld.1.1.frozen
  have H : Hid (Six h o pre post (tp sx sy dx dy a) b c ((w1.setCell ⟨h, o, none⟩ (.int .i32 (tp sx sy dx dy a).1)).setCell ⟨h, o + 1, none⟩ (.int .i32 (tp sx sy dx dy a).2)) ∧ w.grownBy ((w1.setCell ⟨h, o, none⟩ (.int .i32 (tp sx sy dx dy a).1)).setCell ⟨h, o + 1, none⟩ (.int .i32 (tp sx sy dx dy a).2)) (some h)) := Lib.hid ⟨(hHeld.1.set_ 0 (by omega) (.int .i32 (tp sx sy dx dy a).1) (a' := ((tp sx sy dx dy a).1, a.2)) (b' := b) (c' := c) rfl).set_ 1 (by omega) (.int .i32 (tp sx sy dx dy a).2) (a' := (tp sx sy dx dy a)) (b' := b) (c' := c) rfl, gtr (gtr hHeld.2 (gset _ h (o) _)) (gset _ h (o + 1) _)⟩
  clear hHeld
  go_simp
  refine hK.out _ _ ?_
  clear hK K
  try simp only [Act.put, List.getElem_toArray, List.getElem_cons_zero, List.getElem_cons_succ, List.setIfInBounds_toArray, List.set_cons_zero, List.set_cons_succ]
  refine Tail.done (by kernel_rfl) ?_ _
  go_upto_region 1 with (fail)
  obtain ⟨Y0, hY⟩ : ∃ Y, Y = ((w1.setCell ⟨h, o, none⟩ (.int .i32 (tp sx sy dx dy a).1)).setCell ⟨h, o + 1, none⟩ (.int .i32 (tp sx sy dx dy a).2)) := ⟨_, rfl⟩
  have HS : Hid (Six h o pre post (tp sx sy dx dy a) b c Y0) := Lib.hid (by rw [hY]; exact H.out.1)
  have HG : Hid (w.grownBy Y0 (some h)) := Lib.hid (by rw [hY]; exact H.out.2)
  rw [← hY]
  clear hY H c0 c1 kf
  go_wp2_with fail
  refine Tail.start (S := (fun w' => Six h o pre post (tp sx sy dx dy a) b c w' ∧ w.grownBy w' (some h))) (tl := [14]) (by kernel_rfl) ⟨HS.out.drew, gdrew HG.out⟩ (fun hHeld => ?_)
  refine Tail.take (i := 0) (v := ?vq13) rfl (by kernel_rfl) (by kernel_rfl) (by kernel_rfl) (by kernel_rfl) (by kernel_rfl) (fun _ _ _ h => h) (Or.inl ⟨by rfl, ?hyq13⟩) (by assumption) ?restq13
  case hyq13 => (intro w1 hS; go_simp <;> with_reducible rfl)
  try simp only [Act.put, List.getElem_toArray, List.getElem_cons_zero, List.getElem_cons_succ, List.setIfInBounds_toArray, List.set_cons_zero, List.set_cons_succ]
  refine Tail.take (i := 1) (v := ?vq14) rfl (by kernel_rfl) (by kernel_rfl) (by kernel_rfl) (by kernel_rfl) (by kernel_rfl) (fun _ _ _ h => h) (Or.inl ⟨by rfl, ?hyq14⟩) (by assumption) ?restq14
  case hyq14 => (intro w1 hS; go_simp <;> with_reducible rfl)
  try simp only [Act.put, List.getElem_toArray, List.getElem_cons_zero, List.getElem_cons_succ, List.setIfInBounds_toArray, List.set_cons_zero, List.set_cons_succ]
  refine Tail.take (i := 2) (v := ?vq15) rfl (by kernel_rfl) (by kernel_rfl) (by kernel_rfl) (by kernel_rfl) (by kernel_rfl) (fun _ _ _ h => h) (Or.inl ⟨by rfl, ?hyq15⟩) (by assumption) ?restq15
  case hyq15 => (intro w1 hS; go_simp <;> with_reducible rfl)
  try simp only [Act.put, List.getElem_toArray, List.getElem_cons_zero, List.getElem_cons_succ, List.setIfInBounds_toArray, List.set_cons_zero, List.set_cons_succ]
  refine Tail.take (i := 3) (v := ?vq16) rfl (by kernel_rfl) (by kernel_rfl) (by kernel_rfl) (by kernel_rfl) (by kernel_rfl) (fun _ _ _ h => h) (Or.inl ⟨by rfl, ?hyq16⟩) (by assumption) ?restq16
  case hyq16 => (intro w1 hS; go_simp <;> with_reducible rfl)
  try simp only [Act.put, List.getElem_toArray, List.getElem_cons_zero, List.getElem_cons_succ, List.setIfInBounds_toArray, List.set_cons_zero, List.set_cons_succ]
  refine Tail.take (i := 4) (v := ?vq17) rfl (by kernel_rfl) (by kernel_rfl) (by kernel_rfl) (by kernel_rfl) (by kernel_rfl) (fun _ _ _ h => h) (Or.inl ⟨by rfl, ?hyq17⟩) (by assumption) ?restq17
  case hyq17 => (intro w1 hS; go_simp <;> with_reducible rfl)
  try simp only [Act.put, List.getElem_toArray, List.getElem_cons_zero, List.getElem_cons_succ, List.setIfInBounds_toArray, List.set_cons_zero, List.set_cons_succ]
  refine Tail.take (i := 5) (v := ?vq18) rfl (by kernel_rfl) (by kernel_rfl) (by kernel_rfl) (by kernel_rfl) (by kernel_rfl) (fun _ _ _ h => h) (Or.inl ⟨by rfl, ?hyq18⟩) (by assumption) ?restq18
  case hyq18 => (intro w1 hS; go_simp <;> with_reducible rfl)
  try simp only [Act.put, List.getElem_toArray, List.getElem_cons_zero, List.getElem_cons_succ, List.setIfInBounds_toArray, List.set_cons_zero, List.set_cons_succ]
  refine Tail.take (i := 6) (v := ?vq19) rfl (by kernel_rfl) (by kernel_rfl) (by kernel_rfl) (by kernel_rfl) (by kernel_rfl) (fun _ _ _ h => h) (Or.inl ⟨by rfl, ?hyq19⟩) (by assumption) ?restq19
  case hyq19 => (intro w1 hS; go_simp <;> with_reducible rfl)
  try simp only [Act.put, List.getElem_toArray, List.getElem_cons_zero, List.getElem_cons_succ, List.setIfInBounds_toArray, List.set_cons_zero, List.set_cons_succ]
  refine Tail.take (i := 7) (v := ?vq20) rfl (by kernel_rfl) (by kernel_rfl) (by kernel_rfl) (by kernel_rfl) (by kernel_rfl) (fun _ _ _ h => h) (Or.inl ⟨by rfl, ?hyq20⟩) (by assumption) ?restq20
  case hyq20 => (intro w1 hS; go_simp <;> with_reducible rfl)
  try simp only [Act.put, List.getElem_toArray, List.getElem_cons_zero, List.getElem_cons_succ, List.setIfInBounds_toArray, List.set_cons_zero, List.set_cons_succ]
  refine Tail.take (i := 8) (v := ?vq21) rfl (by kernel_rfl) (by kernel_rfl) (by kernel_rfl) (by kernel_rfl) (by kernel_rfl) (fun _ _ _ h => h) (Or.inl ⟨by rfl, ?hyq21⟩) (by assumption) ?restq21
  case hyq21 => (intro w1 hS; go_simp <;> with_reducible rfl)
  try simp only [Act.put, List.getElem_toArray, List.getElem_cons_zero, List.getElem_cons_succ, List.setIfInBounds_toArray, List.set_cons_zero, List.set_cons_succ]
  refine Tail.take (i := 9) (v := ?vq22) rfl (by kernel_rfl) (by kernel_rfl) (by kernel_rfl) (by kernel_rfl) (by kernel_rfl) (fun _ _ _ h => h) (Or.inl ⟨by rfl, ?hyq22⟩) (by assumption) ?restq22
  case hyq22 => (intro w1 hS; go_simp <;> with_reducible rfl)
  try simp only [Act.put, List.getElem_toArray, List.getElem_cons_zero, List.getElem_cons_succ, List.setIfInBounds_toArray, List.set_cons_zero, List.set_cons_succ]
  refine Tail.take (i := 10) (v := ?vq23) rfl (by kernel_rfl) (by kernel_rfl) (by kernel_rfl) (by kernel_rfl) (by kernel_rfl) (fun _ _ _ h => h) (Or.inl ⟨by rfl, ?hyq23⟩) (by assumption) ?restq23
  case hyq23 => (intro w1 hS; have k : w1.cell? ⟨h, o + 2, none⟩ = some (.int .i32 b.1) := hS.1.cell 2 (by omega) rfl; have k2 : w1.cell? ⟨h, o + 3, none⟩ = some (.int .i32 b.2) := hS.1.cell 3 (by omega) rfl; go_simp <;> with_reducible rfl)
  try simp only [Act.put, List.getElem_toArray, List.getElem_cons_zero, List.getElem_cons_succ, List.setIfInBounds_toArray, List.set_cons_zero, List.set_cons_succ]
  refine Tail.take (i := 12) (v := ?vq24) rfl (by kernel_rfl) (by kernel_rfl) (by kernel_rfl) (by kernel_rfl) (by kernel_rfl) (fun _ _ _ h => h) (Or.inl ⟨by rfl, ?hyq24⟩) (by assumption) ?restq24
  case hyq24 => (intro w1 hS; go_simp <;> with_reducible rfl)
  try simp only [Act.put, List.getElem_toArray, List.getElem_cons_zero, List.getElem_cons_succ, List.setIfInBounds_toArray, List.set_cons_zero, List.set_cons_succ]
  refine Tail.ready (rs := [11]) (by kernel_rfl) (by simp) (Tail.AllReadyL.cons rfl (fun K hK => ?_) Tail.AllReadyL.nil)
  go_simp
  refine (HTb.out _).mono ?_
  rintro e w1 ⟨rfl, hb⟩
  refine hK.out _ _ ⟨hHeld.1.below hb, gtr hHeld.2 (ItE.gbel hb _)⟩ (fun hHeld => ?_)
  clear hb
  clear hK K
  try simp only [Act.put, List.getElem_toArray, List.getElem_cons_zero, List.getElem_cons_succ, List.setIfInBounds_toArray, List.set_cons_zero, List.set_cons_succ]
  refine Tail.ready (rs := [13]) (by kernel_rfl) (by simp) (Tail.AllReadyL.cons rfl (fun K hK => ?_) Tail.AllReadyL.nil)
  go_simp
  refine hK.out _ _ hHeld (fun hHeld => ?_)
  clear hK K
  try simp only [Act.put, List.getElem_toArray, List.getElem_cons_zero, List.getElem_cons_succ, List.setIfInBounds_toArray, List.set_cons_zero, List.set_cons_succ]
  refine Tail.ready (rs := [14]) (by kernel_rfl) (by simp) (Tail.AllReadyL.last rfl (by rfl) (fun K hK => ?_) Tail.AllReadyL.nil)
  have c0 : w1.cell? ⟨h, o + 2, none⟩ = some (.int .i32 b.1) := hHeld.1.cell 2 (by omega) rfl
  have c1 : w1.cell? ⟨h, o + 3, none⟩ = some (.int .i32 b.2) := hHeld.1.cell 3 (by omega) rfl
  have kf := hHeld.1.1.frozen
  have H : Hid (Six h o pre post (tp sx sy dx dy a) (tp sx sy dx dy b) c ((w1.setCell ⟨h, o + 2, none⟩ (.int .i32 (tp sx sy dx dy b).1)).setCell ⟨h, o + 3, none⟩ (.int .i32 (tp sx sy dx dy b).2)) ∧ w.grownBy ((w1.setCell ⟨h, o + 2, none⟩ (.int .i32 (tp sx sy dx dy b).1)).setCell ⟨h, o + 3, none⟩ (.int .i32 (tp sx sy dx dy b).2)) (some h)) := Lib.hid ⟨(hHeld.1.set_ 2 (by omega) (.int .i32 (tp sx sy dx dy b).1) (a' := (tp sx sy dx dy a)) (b' := ((tp sx sy dx dy b).1, b.2)) (c' := c) rfl).set_ 3 (by omega) (.int .i32 (tp sx sy dx dy b).2) (a' := (tp sx sy dx dy a)) (b' := (tp sx sy dx dy b)) (c' := c) rfl, gtr (gtr hHeld.2 (gset _ h (o + 2) _)) (gset _ h (o + 3) _)⟩
  clear hHeld
  go_simp
  refine hK.out _ _ ?_
  clear hK K
  try simp only [Act.put, List.getElem_toArray, List.getElem_cons_zero, List.getElem_cons_succ, List.setIfInBounds_toArray, List.set_cons_zero, List.set_cons_succ]
  refine Tail.done (by kernel_rfl) ?_ _
  go_upto_region 2 with (fail)
  obtain ⟨Y1, hY⟩ : ∃ Y, Y = ((w1.setCell ⟨h, o + 2, none⟩ (.int .i32 (tp sx sy dx dy b).1)).setCell ⟨h, o + 3, none⟩ (.int .i32 (tp sx sy dx dy b).2)) := ⟨_, rfl⟩
  have HS : Hid (Six h o pre post (tp sx sy dx dy a) (tp sx sy dx dy b) c Y1) := Lib.hid (by rw [hY]; exact H.out.1)
  have HG : Hid (w.grownBy Y1 (some h)) := Lib.hid (by rw [hY]; exact H.out.2)
  rw [← hY]
  clear hY H c0 c1 kf
  go_wp2_with fail
  refine Tail.start (S := (fun w' => Six h o pre post (tp sx sy dx dy a) (tp sx sy dx dy b) c w' ∧ w.grownBy w' (some h))) (tl := [14]) (by kernel_rfl) ⟨HS.out.drew, gdrew HG.out⟩ (fun hHeld => ?_)
  refine Tail.take (i := 0) (v := ?vq25) rfl (by kernel_rfl) (by kernel_rfl) (by kernel_rfl) (by kernel_rfl) (by kernel_rfl) (fun _ _ _ h => h) (Or.inl ⟨by rfl, ?hyq25⟩) (by assumption) ?restq25
  case hyq25 => (intro w1 hS; go_simp <;> with_reducible rfl)
  try simp only [Act.put, List.getElem_toArray, List.getElem_cons_zero, List.getElem_cons_succ, List.setIfInBounds_toArray, List.set_cons_zero, List.set_cons_succ]
  refine Tail.take (i := 1) (v := ?vq26) rfl (by kernel_rfl) (by kernel_rfl) (by kernel_rfl) (by kernel_rfl) (by kernel_rfl) (fun _ _ _ h => h) (Or.inl ⟨by rfl, ?hyq26⟩) (by assumption) ?restq26
  case hyq26 => (intro w1 hS; go_simp <;> with_reducible rfl)
  try simp only [Act.put, List.getElem_toArray, List.getElem_cons_zero, List.getElem_cons_succ, List.setIfInBounds_toArray, List.set_cons_zero, List.set_cons_succ]
  refine Tail.take (i := 2) (v := ?vq27) rfl (by kernel_rfl) (by kernel_rfl) (by kernel_rfl) (by kernel_rfl) (by kernel_rfl) (fun _ _ _ h => h) (Or.inl ⟨by rfl, ?hyq27⟩) (by assumption) ?restq27
  case hyq27 => (intro w1 hS; go_simp <;> with_reducible rfl)
  try simp only [Act.put, List.getElem_toArray, List.getElem_cons_zero, List.getElem_cons_succ, List.setIfInBounds_toArray, List.set_cons_zero, List.set_cons_succ]
  refine Tail.take (i := 3) (v := ?vq28) rfl (by kernel_rfl) (by kernel_rfl) (by kernel_rfl) (by kernel_rfl) (by kernel_rfl) (fun _ _ _ h => h) (Or.inl ⟨by rfl, ?hyq28⟩) (by assumption) ?restq28
  case hyq28 => (intro w1 hS; go_simp <;> with_reducible rfl)
  try simp only [Act.put, List.getElem_toArray, List.getElem_cons_zero, List.getElem_cons_succ, List.setIfInBounds_toArray, List.set_cons_zero, List.set_cons_succ]
  refine Tail.take (i := 4) (v := ?vq29) rfl (by kernel_rfl) (by kernel_rfl) (by kernel_rfl) (by kernel_rfl) (by kernel_rfl) (fun _ _ _ h => h) (Or.inl ⟨by rfl, ?hyq29⟩) (by assumption) ?restq29
  case hyq29 => (intro w1 hS; go_simp <;> with_reducible rfl)
  try simp only [Act.put, List.getElem_toArray, List.getElem_cons_zero, List.getElem_cons_succ, List.setIfInBounds_toArray, List.set_cons_zero, List.set_cons_succ]
  refine Tail.take (i := 5) (v := ?vq30) rfl (by kernel_rfl) (by kernel_rfl) (by kernel_rfl) (by kernel_rfl) (by kernel_rfl) (fun _ _ _ h => h) (Or.inl ⟨by rfl, ?hyq30⟩) (by assumption) ?restq30
  case hyq30 => (intro w1 hS; go_simp <;> with_reducible rfl)
  try simp only [Act.put, List.getElem_toArray, List.getElem_cons_zero, List.getElem_cons_succ, List.setIfInBounds_toArray, List.set_cons_zero, List.set_cons_succ]
  refine Tail.take (i := 6) (v := ?vq31) rfl (by kernel_rfl) (by kernel_rfl) (by kernel_rfl) (by kernel_rfl) (by kernel_rfl) (fun _ _ _ h => h) (Or.inl ⟨by rfl, ?hyq31⟩) (by assumption) ?restq31
  case hyq31 => (intro w1 hS; go_simp <;> with_reducible rfl)
  try simp only [Act.put, List.getElem_toArray, List.getElem_cons_zero, List.getElem_cons_succ, List.setIfInBounds_toArray, List.set_cons_zero, List.set_cons_succ]
  refine Tail.take (i := 7) (v := ?vq32) rfl (by kernel_rfl) (by kernel_rfl) (by kernel_rfl) (by kernel_rfl) (by kernel_rfl) (fun _ _ _ h => h) (Or.inl ⟨by rfl, ?hyq32⟩) (by assumption) ?restq32
  case hyq32 => (intro w1 hS; go_simp <;> with_reducible rfl)
  try simp only [Act.put, List.getElem_toArray, List.getElem_cons_zero, List.getElem_cons_succ, List.setIfInBounds_toArray, List.set_cons_zero, List.set_cons_succ]
  refine Tail.take (i := 8) (v := ?vq33) rfl (by kernel_rfl) (by kernel_rfl) (by kernel_rfl) (by kernel_rfl) (by kernel_rfl) (fun _ _ _ h => h) (Or.inl ⟨by rfl, ?hyq33⟩) (by assumption) ?restq33
  case hyq33 => (intro w1 hS; go_simp <;> with_reducible rfl)
  try simp only [Act.put, List.getElem_toArray, List.getElem_cons_zero, List.getElem_cons_succ, List.setIfInBounds_toArray, List.set_cons_zero, List.set_cons_succ]
  refine Tail.take (i := 9) (v := ?vq34) rfl (by kernel_rfl) (by kernel_rfl) (by kernel_rfl) (by kernel_rfl) (by kernel_rfl) (fun _ _ _ h => h) (Or.inl ⟨by rfl, ?hyq34⟩) (by assumption) ?restq34
  case hyq34 => (intro w1 hS; go_simp <;> with_reducible rfl)
  try simp only [Act.put, List.getElem_toArray, List.getElem_cons_zero, List.getElem_cons_succ, List.setIfInBounds_toArray, List.set_cons_zero, List.set_cons_succ]
  refine Tail.take (i := 10) (v := ?vq35) rfl (by kernel_rfl) (by kernel_rfl) (by kernel_rfl) (by kernel_rfl) (by kernel_rfl) (fun _ _ _ h => h) (Or.inl ⟨by rfl, ?hyq35⟩) (by assumption) ?restq35
  case hyq35 => (intro w1 hS; have k : w1.cell? ⟨h, o + 4, none⟩ = some (.int .i32 c.1) := hS.1.cell 4 (by omega) rfl; have k2 : w1.cell? ⟨h, o + 5, none⟩ = some (.int .i32 c.2) := hS.1.cell 5 (by omega) rfl; go_simp <;> with_reducible rfl)
  try simp only [Act.put, List.getElem_toArray, List.getElem_cons_zero, List.getElem_cons_succ, List.setIfInBounds_toArray, List.set_cons_zero, List.set_cons_succ]
  refine Tail.take (i := 12) (v := ?vq36) rfl (by kernel_rfl) (by kernel_rfl) (by kernel_rfl) (by kernel_rfl) (by kernel_rfl) (fun _ _ _ h => h) (Or.inl ⟨by rfl, ?hyq36⟩) (by assumption) ?restq36
  case hyq36 => (intro w1 hS; go_simp <;> with_reducible rfl)
  try simp only [Act.put, List.getElem_toArray, List.getElem_cons_zero, List.getElem_cons_succ, List.setIfInBounds_toArray, List.set_cons_zero, List.set_cons_succ]
  refine Tail.ready (rs := [11]) (by kernel_rfl) (by simp) (Tail.AllReadyL.cons rfl (fun K hK => ?_) Tail.AllReadyL.nil)
  go_simp
  refine (HTc.out _).mono ?_
  rintro e w1 ⟨rfl, hb⟩
  refine hK.out _ _ ⟨hHeld.1.below hb, gtr hHeld.2 (ItE.gbel hb _)⟩ (fun hHeld => ?_)
  clear hb
  clear hK K
  try simp only [Act.put, List.getElem_toArray, List.getElem_cons_zero, List.getElem_cons_succ, List.setIfInBounds_toArray, List.set_cons_zero, List.set_cons_succ]
  refine Tail.ready (rs := [13]) (by kernel_rfl) (by simp) (Tail.AllReadyL.cons rfl (fun K hK => ?_) Tail.AllReadyL.nil)
  go_simp
  refine hK.out _ _ hHeld (fun hHeld => ?_)
  clear hK K
  try simp only [Act.put, List.getElem_toArray, List.getElem_cons_zero, List.getElem_cons_succ, List.setIfInBounds_toArray, List.set_cons_zero, List.set_cons_succ]
  refine Tail.ready (rs := [14]) (by kernel_rfl) (by simp) (Tail.AllReadyL.last rfl (by rfl) (fun K hK => ?_) Tail.AllReadyL.nil)
  have c0 : w1.cell? ⟨h, o + 4, none⟩ = some (.int .i32 c.1) := hHeld.1.cell 4 (by omega) rfl
  have c1 : w1.cell? ⟨h, o + 5, none⟩ = some (.int .i32 c.2) := hHeld.1.cell 5 (by omega) rfl
  have kf := hHeld.1.1.frozen
  have H : Hid (Six h o pre post (tp sx sy dx dy a) (tp sx sy dx dy b) (tp sx sy dx dy c) ((w1.setCell ⟨h, o + 4, none⟩ (.int .i32 (tp sx sy dx dy c).1)).setCell ⟨h, o + 5, none⟩ (.int .i32 (tp sx sy dx dy c).2)) ∧ w.grownBy ((w1.setCell ⟨h, o + 4, none⟩ (.int .i32 (tp sx sy dx dy c).1)).setCell ⟨h, o + 5, none⟩ (.int .i32 (tp sx sy dx dy c).2)) (some h)) := Lib.hid ⟨(hHeld.1.set_ 4 (by omega) (.int .i32 (tp sx sy dx dy c).1) (a' := (tp sx sy dx dy a)) (b' := (tp sx sy dx dy b)) (c' := ((tp sx sy dx dy c).1, c.2)) rfl).set_ 5 (by omega) (.int .i32 (tp sx sy dx dy c).2) (a' := (tp sx sy dx dy a)) (b' := (tp sx sy dx dy b)) (c' := (tp sx sy dx dy c)) rfl, gtr (gtr hHeld.2 (gset _ h (o + 4) _)) (gset _ h (o + 5) _)⟩
  clear hHeld
  go_simp
  refine hK.out _ _ ?_
  clear hK K
  try simp only [Act.put, List.getElem_toArray, List.getElem_cons_zero, List.getElem_cons_succ, List.setIfInBounds_toArray, List.set_cons_zero, List.set_cons_succ]
  refine Tail.done (by kernel_rfl) ?_ _
  go_wp2
  go_end0
  exact ⟨rfl, H.out.1, H.out.2⟩
end Go.Proofs.YtdeaodgcdacleaaDoor.Trn
