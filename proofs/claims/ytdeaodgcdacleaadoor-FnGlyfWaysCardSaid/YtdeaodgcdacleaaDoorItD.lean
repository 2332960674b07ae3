/- Contract of the reader's next point, whole. -/
import Derived.Test.YtdeaodgcdacleaaDoorItC
namespace Go.Proofs.YtdeaodgcdacleaaDoor.ItD
open Go.ChangeShapes Go.WideShapes Go.ChangeAt Go.RowKit
open Lst Mem RowG GlyM IdxB DatE ItA ItB PthA SpecB ItC
set_option linter.unusedSimpArgs false
set_option linter.unusedVariables false
set_option maxHeartbeats 60000000 in
set_option maxRecDepth 20000 in
theorem q3 (w0 : World) (gb g off n cp : Nat) (E : Value) (t : It) (bs : List Int) (FL RP FI U M Y N : Int) (W : World) (a : Act) (c : Code) (hc : c = Gate.dropC 3 body) (hs : a.tmps.size = 258) (hd : a.defers = []) (h0 : a.tmps[0]? = some (.pointer (some ⟨gb, 0, none⟩))) (hB : Blk gb IT (t.cs (.slice (some ⟨g, off, none⟩) n cp) E) W) (hg : w0.grownBy W (some gb)) (hne : g ≠ gb) (hA : At W g off (vals .u8 bs)) (hn : n = bs.length) (hcp : n ≤ cp) (hn2 : n ≤ 100000) (hrb : 0 ≤ t.rp ∧ t.rp ≤ 255) (hf : Fnx t bs FL RP FI) (hq : Hid (Xnx { t with fl := FL, rp := RP, fi := FI } bs U M)) (hq2 : Hid (Ynx { t with fl := FL, rp := RP, fi := FI } bs Y N)) : Code.wp Tryd.prog c (bodyPost Tryd.prog Tryd.f39 (PtP gb (.slice (some ⟨g, off, none⟩) n cp) E { t with fl := FL, rp := RP, fi := FI, x := U, xi := M, y := Y, yi := N, on := bt FL 1 } w0)) a W := by
  rw [hc]
  conv in (Gate.dropC _ _) => whnf
  obtain ⟨S, he, hS⟩ := open_ hs hd
  have e0 := hS 0 _ h0
  clear h0
  subst he
  clear hs hd hc hS
  rw [e0]
  clear e0
  have hnH := Lib.hid hn
  have cf := hB.frozen
  obtain ⟨rep, p, rep', p', hrp, hfi, hF, hRP, hFI⟩ := hf
  have hrp0 : 0 ≤ t.rp ∧ t.rp ≤ 255 := hrb
  rcases hF with ⟨h1, h2, h3, h4⟩ | ⟨h1, h2, h3, h4, h5, h6⟩ | ⟨h1, h2, h3, h4, h5, h6⟩
  · have c16 := hB.cell (i := 16) rfl
    have hpos : 0 < t.rp := by omega
    have w1 : IntKind.u8.wrap (t.rp - 1) = t.rp - 1 := IntWalk.u8_in _ (by omega)
    have hB2 := hB.set_ 16 (.int .u8 (t.rp - 1))
    have HE : Hid (FL = t.fl ∧ RP = t.rp - 1 ∧ FI = t.fi) := Lib.hid ⟨h2, by omega, by omega⟩
    have hg2 := gtr hg (gset W gb 16 (.int .u8 (t.rp - 1)))
    have hA2 := at_block hA (Below.heap_setCell W ⟨gb, 16, none⟩ (.int .u8 (t.rp - 1)) _ hne)
    have H2 := Lib.hid (And.intro hB2 (And.intro hg2 hA2))
    clear hB hg hA hn h1 h2 h3 h4 hrp hfi hRP hFI hB2 hg2 hA2 hrb
    repeat (first | ((with_reducible refine Gate.seqr2 11 ?_); refine q4 w0 gb g off n cp E { t with fl := FL, rp := RP, fi := FI } bs U M Y N _ _ _ (by kernel_rfl) (by exact rfl) (by exact rfl) (by exact rfl) (by rw [HE.out.1, HE.out.2.1, HE.out.2.2]; exact H2.out.1) (H2.out.2.1) hne (H2.out.2.2) hnH.out hcp hn2 hq.out hq2) | go_values | go_skip | go_guarded | go_step | go_upon | go_back)
  · have hrp1 : t.rp = 0 := by omega
    have c16 : W.cell? ⟨gb, 16, none⟩ = some (.int .u8 0) := hB.cell (i := 16) (by rw [← hrp1]; rfl)
    have hl : p < bs.length := by omega
    have hln : p < n := by omega
    have b8 : (bits BinOp.and IntKind.u8 FL 8 != 0) = false := h4
    have cb := byt_cell hA hl
    rw [h3] at cb
    have HV := Lib.hid (And.intro hB (And.intro hg (And.intro hA (And.intro hfi (And.intro hrp1 (And.intro hRP (And.intro hFI (And.intro h5 (And.intro h6 h2)))))))))
    clear hB hg hA hn hfi hrp hrp1 hRP hFI h1 h2 h3 h4 h5 h6 hl hrp0 hrb
    go_wp2
    refine Stl.region 13 (by kernel_rfl) (by kernel_rfl) (by kernel_rfl) (fun X hX => ?_)
    have hBX : Blk gb IT (t.cs (.slice (some ⟨g, off, none⟩) n cp) E) X := by rw [← hX]; exact HV.out.1
    have hgX : w0.grownBy X (some gb) := by rw [← hX]; exact gdrew HV.out.2.1
    have hAX : At X g off (vals .u8 bs) := by rw [← hX]; exact HV.out.2.2.1
    have kb : X.cell? ⟨g, off + p, none⟩ = some (.int .u8 FL) := by rw [← hX]; exact cb
    have k0 := hBX.cell (i := 0) rfl
    have k2 := hBX.cell (i := 2) (u := .int .i32 (p : Int)) (by rw [← HV.out.2.2.2.1]; rfl)
    have k15 := hBX.cell (i := 15) rfl
    have kf := hBX.frozen
    have hB2 := (hBX.set_ 15 (.int .u8 FL)).set_ 2 (.int .i32 ((p : Int) + 1))
    have hg2 := gtr hgX (gtr (gset X gb 15 (.int .u8 FL)) (gset _ gb 2 (.int .i32 ((p : Int) + 1))))
    have hA2 : At ((X.setCell ⟨gb, 15, none⟩ (.int .u8 FL)).setCell ⟨gb, 2, none⟩ (.int .i32 ((p : Int) + 1))) g off (vals .u8 bs) := at_block (at_block hAX (Below.heap_setCell _ _ _ _ hne)) (Below.heap_setCell _ _ _ _ hne)
    have H2 := Lib.hid (And.intro hB2 (And.intro hg2 hA2))
    clear hX cb c16 cf hBX hgX hAX hB2 hg2 hA2
    simp only [List.take_succ_cons, List.take_zero, List.drop_succ_cons, List.drop_zero]
    repeat (refine Stl.step (fun K hK => ?_); go_simp; refine hK _ ?_; clear hK K)
    refine Stl.nil ?_
    have HE : Hid (RP = t.rp ∧ FI = (p : Int) + 1) := Lib.hid ⟨by have a := HV.out.2.2.2.2.1; have b := HV.out.2.2.2.2.2.1; have c := HV.out.2.2.2.2.2.2.2.1; rw [a, b, c]; rfl, by have a := HV.out.2.2.2.2.2.2.1; have b := HV.out.2.2.2.2.2.2.2.2.1; rw [a, b]; rfl⟩
    repeat (first | ((with_reducible refine Gate.seqr2 11 ?_); refine q4 w0 gb g off n cp E { t with fl := FL, rp := RP, fi := FI } bs U M Y N _ _ _ (by kernel_rfl) (by exact rfl) (by exact rfl) (by exact rfl) (by rw [HE.out.1, HE.out.2]; exact H2.out.1) (H2.out.2.1) hne (H2.out.2.2) hnH.out hcp hn2 hq.out hq2) | go_values | go_skip | go_guarded | go_step | go_upon | go_back)
  · have hrp1 : t.rp = 0 := by omega
    have c16 : W.cell? ⟨gb, 16, none⟩ = some (.int .u8 0) := hB.cell (i := 16) (by rw [← hrp1]; rfl)
    have hl : p < bs.length := by omega
    have hln : p < n := by omega
    have b8 : (bits BinOp.and IntKind.u8 FL 8 != 0) = true := h4
    have cb := byt_cell hA hl
    rw [h3] at cb
    have HV := Lib.hid (And.intro hB (And.intro hg (And.intro hA (And.intro hfi (And.intro hrp1 (And.intro hRP (And.intro hFI (And.intro h5 (And.intro h6 h2)))))))))
    clear hB hg hA hn hfi hrp hrp1 hRP hFI h1 h2 h3 h4 h5 h6 hl hrp0 hrb
    go_wp2
    refine Stl.region 13 (by kernel_rfl) (by kernel_rfl) (by kernel_rfl) (fun X hX => ?_)
    have hBX : Blk gb IT (t.cs (.slice (some ⟨g, off, none⟩) n cp) E) X := by rw [← hX]; exact HV.out.1
    have hgX : w0.grownBy X (some gb) := by rw [← hX]; exact gdrew HV.out.2.1
    have hAX : At X g off (vals .u8 bs) := by rw [← hX]; exact HV.out.2.2.1
    have kb : X.cell? ⟨g, off + p, none⟩ = some (.int .u8 FL) := by rw [← hX]; exact cb
    have k0 := hBX.cell (i := 0) rfl
    have k2 := hBX.cell (i := 2) (u := .int .i32 (p : Int)) (by rw [← HV.out.2.2.2.1]; rfl)
    have k15 := hBX.cell (i := 15) rfl
    have kf := hBX.frozen
    have hB2 := (hBX.set_ 15 (.int .u8 FL)).set_ 2 (.int .i32 ((p : Int) + 1))
    have hg2 := gtr hgX (gtr (gset X gb 15 (.int .u8 FL)) (gset _ gb 2 (.int .i32 ((p : Int) + 1))))
    have hA2 : At ((X.setCell ⟨gb, 15, none⟩ (.int .u8 FL)).setCell ⟨gb, 2, none⟩ (.int .i32 ((p : Int) + 1))) g off (vals .u8 bs) := at_block (at_block hAX (Below.heap_setCell _ _ _ _ hne)) (Below.heap_setCell _ _ _ _ hne)
    have H2 := Lib.hid (And.intro hB2 (And.intro hg2 hA2))
    clear hX cb c16 cf hBX hgX hAX hB2 hg2 hA2
    simp only [List.take_succ_cons, List.take_zero, List.drop_succ_cons, List.drop_zero]
    repeat (refine Stl.step (fun K hK => ?_); go_simp; refine hK _ ?_; clear hK K)
    refine Stl.nil ?_
    go_wp2
    have HE : Hid (FI = (p : Int) + 1 + 1) := Lib.hid (by have a := HV.out.2.2.2.2.2.2.1; have b := HV.out.2.2.2.2.2.2.2.2.1; rw [a, b]; omega)
    have hp1 : p + 1 < n := by have := HV.out.2.2.2.2.2.2.2.2.2; have := hnH.out; omega
    have hp2 : (0 : Int) ≤ (p : Int) + 1 ∧ (p : Int) + 1 < (n : Int) := by omega
    refine Stl.region 13 (by kernel_rfl) (by kernel_rfl) (by kernel_rfl) (fun Z hZ => ?_)
    have hBZ : Blk gb IT (({ t with fl := FL, fi := (p : Int) + 1 } : It).cs (.slice (some ⟨g, off, none⟩) n cp) E) Z := by rw [← hZ]; exact H2.out.1
    have hgZ : w0.grownBy Z (some gb) := by rw [← hZ]; exact gdrew H2.out.2.1
    have hAZ : At Z g off (vals .u8 bs) := by rw [← hZ]; exact H2.out.2.2
    have cz := byt_cell hAZ (show p + 1 < bs.length by have := hnH.out; omega)
    have hrpe : bs.getD (p + 1) 0 = RP := by have a := HV.out.2.2.2.2.2.1; have b := HV.out.2.2.2.2.2.2.2.1; rw [a, b]
    rw [hrpe] at cz
    have z0 := hBZ.cell (i := 0) rfl
    have z2 := hBZ.cell (i := 2) rfl
    have z16 := hBZ.cell (i := 16) rfl
    have zf := hBZ.frozen
    have hB3 := (hBZ.set_ 16 (.int .u8 RP)).set_ 2 (.int .i32 ((p : Int) + 1 + 1))
    have hg3 := gtr hgZ (gtr (gset Z gb 16 (.int .u8 RP)) (gset _ gb 2 (.int .i32 ((p : Int) + 1 + 1))))
    have hA3 : At ((Z.setCell ⟨gb, 16, none⟩ (.int .u8 RP)).setCell ⟨gb, 2, none⟩ (.int .i32 ((p : Int) + 1 + 1))) g off (vals .u8 bs) := at_block (at_block hAZ (Below.heap_setCell _ _ _ _ hne)) (Below.heap_setCell _ _ _ _ hne)
    have H3 := Lib.hid (And.intro hB3 (And.intro hg3 hA3))
    clear hZ hBZ hgZ hAZ hB3 hg3 hA3 kb k0 k2 k15 kf hrpe
    simp only [List.take_succ_cons, List.take_zero, List.drop_succ_cons, List.drop_zero]
    repeat (refine Stl.step (fun K hK => ?_); go_simp; refine hK _ ?_; clear hK K)
    refine Stl.nil ?_
    repeat (first | ((with_reducible refine Gate.seqr2 11 ?_); refine q4 w0 gb g off n cp E { t with fl := FL, rp := RP, fi := FI } bs U M Y N _ _ _ (by kernel_rfl) (by exact rfl) (by exact rfl) (by exact rfl) (by rw [HE.out]; exact H3.out.1) (H3.out.2.1) hne (H3.out.2.2) hnH.out hcp hn2 hq.out hq2) | go_values | go_skip | go_guarded | go_step | go_upon | go_back)
set_option maxHeartbeats 60000000 in
set_option maxRecDepth 20000 in
/-- the next point: there is one -/
theorem next_any (w : World) (gb g off n cp : Nat) (E : Value) (t : It) (bs : List Int) (FL RP FI U M Y N : Int) (hB : Blk gb IT (t.cs (.slice (some ⟨g, off, none⟩) n cp) E) w) (hne : g ≠ gb) (hA : At w g off (vals .u8 bs)) (hn : n = bs.length) (hcp : n ≤ cp) (hn2 : n ≤ 100000) (hp : (0 ≤ t.p ∧ t.p < t.np) ∧ t.np ≤ 100000) (hrb : 0 ≤ t.rp ∧ t.rp ≤ 255) (hf : Fnx t bs FL RP FI) (hq : Xnx { t with fl := FL, rp := RP, fi := FI } bs U M) (hq2 : Ynx { t with fl := FL, rp := RP, fi := FI } bs Y N) :
    Calls Tryd.prog 39 #[.pointer (some ⟨gb, 0, none⟩)] w (PtP gb (.slice (some ⟨g, off, none⟩) n cp) E { t with p := t.p + 1, fl := FL, rp := RP, fi := FI, x := U, xi := M, y := Y, yi := N, on := bt FL 1 } w) := by
  have HH := Lib.hid (And.intro hf (And.intro hq (And.intro hq2 (And.intro hA (And.intro hn hB)))))
  have c10 := hB.cell (i := 10) rfl
  have c11 := hB.cell (i := 11) rfl
  have cf := hB.frozen
  have he : (t.p == t.np) = false := by simp; omega
  clear hf hq hq2 hA hn hB
  go_enter Tryd.func39, Tryd.ntmps39
  go_wp2
  go_quiet (fail)
  obtain ⟨X, hX⟩ : ∃ X, X = w.drewN nq := ⟨_, rfl⟩
  have hBX : Blk gb IT (t.cs (.slice (some ⟨g, off, none⟩) n cp) E) X := by rw [hX]; exact HH.out.2.2.2.2.2
  have hAX : At X g off (vals .u8 bs) := by rw [hX]; exact HH.out.2.2.2.1
  have hgX : w.grownBy X (some gb) := by rw [hX]; exact ⟨rfl, rfl, rfl, Nat.le_refl _, fun _ _ _ => rfl⟩
  rw [← hX]
  clear hX c10 c11 cf
  have k10 := hBX.cell (i := 10) rfl
  have kf := hBX.frozen
  have hB2 := hBX.set_ 10 (.int .i32 (t.p + 1))
  have hg2 := gtr hgX (gset X gb 10 (.int .i32 (t.p + 1)))
  have hA2 := at_block hAX (Below.heap_setCell X ⟨gb, 10, none⟩ (.int .i32 (t.p + 1)) _ hne)
  have H2 := Lib.hid (And.intro hB2 (And.intro hg2 hA2))
  clear hBX hAX hgX hB2 hg2 hA2
  repeat (first | ((with_reducible refine Gate.seqr2 4 ?_); refine q3 w gb g off n cp E { t with p := t.p + 1 } bs FL RP FI U M Y N _ _ _ (by kernel_rfl) (by exact rfl) (by exact rfl) (by exact rfl) H2.out.1 H2.out.2.1 hne H2.out.2.2 HH.out.2.2.2.2.1 hcp hn2 hrb HH.out.1 (Lib.hid HH.out.2.1) (Lib.hid HH.out.2.2.1)) | go_values | go_skip | go_guarded | go_step | go_upon | go_back)
set_option maxHeartbeats 60000000 in
set_option maxRecDepth 20000 in
/-- the next point: there is none -/
theorem next_none (w : World) (gb : Nat) (D E : Value) (t : It) (hB : Blk gb IT (t.cs D E) w) (hp : t.p = t.np) :
    Calls Tryd.prog 39 #[.pointer (some ⟨gb, 0, none⟩)] w (fun e w' => e = .returned (.bool false) ∧ ∃ n, w' = w.drewN n) := by
  have c10 := hB.cell (i := 10) rfl
  have c11 := hB.cell (i := 11) (u := .int .i32 t.p) (by rw [hp]; rfl)
  clear hp hB
  go_enter Tryd.func39, Tryd.ntmps39
  go_wp2
  go_quiet (fail)
  go_wp2
  go_ret
  exact ⟨rfl, _, rfl⟩

end Go.Proofs.YtdeaodgcdacleaaDoor.ItD
