/- Contract of the reader's next contour. -/
import Derived.Test.YtdeaodgcdacleaaDoorItG
namespace Go.Proofs.YtdeaodgcdacleaaDoor.ItH
open Go.ChangeShapes Go.WideShapes Go.ChangeAt Go.RowKit
open Lst Mem RowG GlyM IdxB DatE ItA ItB PthA SpecB ItC ItE ItF
set_option linter.unusedSimpArgs false
set_option linter.unusedVariables false
theorem gdraws {w w' : World} {r : Option Nat} (h : w.grownBy w' r) (n : Nat) : w.grownBy (w'.drewN n) r := ⟨h.os, h.tape, h.output, h.size, h.block⟩
theorem quiet_u16 {g off n c : Nat} {x y : Int} {w : World} {nq : Nat} (hn : 2 ≤ n) (hx : 0 ≤ x ∧ x ≤ 255) (hy : 0 ≤ y ∧ y ≤ 255) (h0 : w.cell? ⟨g, off, none⟩ = some (.int .u8 x)) (h1 : w.cell? ⟨g, off + 1, none⟩ = some (.int .u8 y)) :
    Calls Tryd.prog 28 #[.slice (some ⟨g, off, none⟩) n c] (w.drewN nq) fun e w' => e = .returned (.int .u16 (x * 256 + y)) ∧ ∃ m, w' = w.drewN m :=
  Calls.quiet_of ((SfntB.u16_any g off n c x y (w.drewN nq) hn hx hy (by exact h0) (by exact h1)).mono fun _ _ ⟨he, hw⟩ => ⟨he, 1, hw.symm⟩)
/-- there is none -/
theorem contour_none (w : World) (gb : Nat) (D E : Value) (t : It) (hB : Blk gb IT (t.cs D E) w) (hc : t.c = t.nc) (hp : t.pe = t.fe) :
    Calls Tryd.prog 31 #[.pointer (some ⟨gb, 0, none⟩)] w (fun e w' => e = .returned (.bool false) ∧ ∃ n, w' = w.drewN n) := by
  have c8 := hB.cell (i := 8) rfl
  have c9 := hB.cell (i := 9) (u := .int .i32 t.c) (by rw [hc]; rfl)
  have c6 := hB.cell (i := 6) rfl
  have c7 := hB.cell (i := 7) (u := .int .i32 t.pe) (by rw [hp]; rfl)
  clear hp hB hc
  go_enter Tryd.func31, Tryd.ntmps31
  go_wp2
  go_quiet (fail)
  go_wp2
  go_quiet (fail)
  go_wp2
  go_ret
  exact ⟨rfl, _, (World.drewN_drewN _ _ _).trans rfl⟩
/-- the state at a contour's begin -/
def It.con (t : It) (e : Int) : It := { t with c := t.c + 1, ei := t.ei + 2, np := e - t.pe, p := 0, pe := e, cg := false, cd := false, v1 := false, v2 := false, v3 := false }
def ConP (gb : Nat) (D E : Value) (t : It) (W : World) (e : Ending) (w' : World) : Prop := e = .returned (.bool true) ∧ Blk gb IT (t.cs D E) w' ∧ W.grownBy w' (some gb)
set_option maxHeartbeats 60000000 in
set_option maxRecDepth 20000 in
theorem contour_any (w : World) (gb g off n cp : Nat) (E : Value) (t : It) (bs : List Int) (k : Nat) (e : Int) (hB : Blk gb IT (t.cs (.slice (some ⟨g, off, none⟩) n cp) E) w) (hne : g ≠ gb) (hA : At w g off (vals .u8 bs)) (hn : n = bs.length) (hcp : n ≤ cp) (hn2 : n ≤ 100000) (hby : Byt bs)
    (hc : (0 ≤ t.c ∧ t.c < t.nc) ∧ t.nc ≤ 1000) (hei : t.ei = (k : Int)) (hk : k + 1 < n) (he : bs.getD k 0 * 256 + bs.getD (k + 1) 0 = e) (hpe : (-1 ≤ t.pe ∧ t.pe < e) ∧ e ≤ t.fe ∧ t.fe ≤ 1000) :
    Calls Tryd.prog 31 #[.pointer (some ⟨gb, 0, none⟩)] w (ConP gb (.slice (some ⟨g, off, none⟩) n cp) E (It.con t e) w) := by
  have c8 := hB.cell (i := 8) rfl
  have c9 := hB.cell (i := 9) rfl
  have hcn : (t.c == t.nc) = false := by simp; omega
  have hx : 0 ≤ bs.getD k 0 ∧ bs.getD k 0 ≤ 255 := hby _ (getD_mem _ _ _ (by omega))
  have hy : 0 ≤ bs.getD (k + 1) 0 ∧ bs.getD (k + 1) 0 ≤ 255 := hby _ (getD_mem _ _ _ (by omega))
  have HU : Hid (∀ W nq, At W g off (vals .u8 bs) → Calls Tryd.prog 28 #[.slice (some ⟨g, off + k, none⟩) (n - k) (cp - k)] (W.drewN nq) fun e' w' => e' = .returned (.int .u16 e) ∧ ∃ m, w' = W.drewN m) := Lib.hid (fun W nq hA => by
    rw [← he]
    exact quiet_u16 (by omega) hx hy (byt_cell hA (by omega)) (by have := byt_cell hA (i := k + 1) (by omega); rw [Nat.add_assoc]; exact this))
  have HV := Lib.hid (And.intro hB (And.intro hA hei))
  have hk1 : k ≤ n := by omega
  have hk2 : k ≤ cp := by omega
  have hk3 : (k : Int) ≤ (cp : Int) := by omega
  have hk6 : ¬ cp = k := by omega
  have hkn : k ≤ 100000 := by omega
  clear hB hA hei hn hby hx hy he
  go_enter Tryd.func31, Tryd.ntmps31
  go_wp2
  go_quiet (fail)
  obtain ⟨X, hX⟩ : ∃ X, X = w.drewN nq := ⟨_, rfl⟩
  have hBX : Blk gb IT (t.cs (.slice (some ⟨g, off, none⟩) n cp) E) X := by rw [hX]; exact HV.out.1
  have hAX : At X g off (vals .u8 bs) := by rw [hX]; exact HV.out.2.1
  have hgX : w.grownBy X (some gb) := by rw [hX]; exact gdraws (gself w _) _
  rw [← hX]
  clear hX c8 c9 nq
  have k8 := hBX.cell (i := 8) rfl
  have kf := hBX.frozen
  have w1 : IntKind.i32.wrap (t.c + 1) = t.c + 1 := IntWalk.i32_in _ (by omega)
  go_upto_region 6 with (fail)
  have hBY := hBX.set_ 8 (.int .i32 (t.c + 1))
  have hAY := at_block hAX (Below.heap_setCell X ⟨gb, 8, none⟩ (.int .i32 (t.c + 1)) _ hne)
  have hgY := gtr hgX (gset X gb 8 (.int .i32 (t.c + 1)))
  obtain ⟨Y, hY⟩ : ∃ Y, Y = X.setCell ⟨gb, 8, none⟩ (.int .i32 (t.c + 1)) := ⟨_, rfl⟩
  rw [← hY] at hBY hAY hgY
  rw [← hY]
  have hBY : Blk gb IT (({ t with c := t.c + 1 } : It).cs (.slice (some ⟨g, off, none⟩) n cp) E) Y := hBY
  clear hY hBX hAX hgX k8 kf
  have k0 := hBY.cell (i := 0) rfl
  have k5 := hBY.cell (i := 5) (u := .int .i32 (k : Int)) (by rw [← HV.out.2.2]; rfl)
  have HY := Lib.hid (And.intro hBY (And.intro hAY hgY))
  clear hBY hAY hgY
  go_quiet ((go_at_call 28; exact HU.out _ _ HY.out.2.1))
  obtain ⟨Z, hZ⟩ : ∃ Z, Z = Y.drewN nq := ⟨_, rfl⟩
  have hBZ : Blk gb IT (({ t with c := t.c + 1 } : It).cs (.slice (some ⟨g, off, none⟩) n cp) E) Z := by rw [hZ]; exact HY.out.1
  have hgZ : w.grownBy Z (some gb) := by rw [hZ]; exact gdraws HY.out.2.2 _
  rw [← hZ]
  clear hZ nq k0 k5
  have kf := hBZ.frozen
  have k5 := hBZ.cell (i := 5) (u := .int .i32 (k : Int)) (by rw [← HV.out.2.2]; rfl)
  have k6 := hBZ.cell (i := 6) rfl
  have k7 := hBZ.cell (i := 7) rfl
  have k10 := hBZ.cell (i := 10) rfl
  have k11 := hBZ.cell (i := 11) rfl
  have k17 := hBZ.cell (i := 17) rfl
  have k18 := hBZ.cell (i := 18) rfl
  have k19 := hBZ.cell (i := 19) rfl
  have k20 := hBZ.cell (i := 20) rfl
  have k21 := hBZ.cell (i := 21) rfl
  have n1 : ¬ e ≤ t.pe := by omega
  have n2 : ¬ t.fe < e := by omega
  have w2 : IntKind.i32.wrap (e - t.pe) = e - t.pe := IntWalk.i32_in _ (by omega)
  have w3 : IntKind.i32.wrap ((k : Int) + 2) = (k : Int) + 2 := IntWalk.i32_in _ (by omega)
  have w4 : IntKind.i32.wrap e = e := IntWalk.i32_in _ (by omega)
  have HW := Lib.hid (And.intro ((((((((((hBZ).set_ 5 (.int .i32 ((k : Int) + 2))).set_ 11 (.int .i32 (e - t.pe))).set_ 10 (.int .i32 0)).set_ 6 (.int .i32 e)).set_ 17 (.bool false)).set_ 18 (.bool false)).set_ 19 (.bool false)).set_ 20 (.bool false)).set_ 21 (.bool false)) (gtr (gtr (gtr (gtr (gtr (gtr (gtr (gtr (gtr (hgZ) (gset _ gb 5 (.int .i32 ((k : Int) + 2)))) (gset _ gb 11 (.int .i32 (e - t.pe)))) (gset _ gb 10 (.int .i32 0))) (gset _ gb 6 (.int .i32 e))) (gset _ gb 17 (.bool false))) (gset _ gb 18 (.bool false))) (gset _ gb 19 (.bool false))) (gset _ gb 20 (.bool false))) (gset _ gb 21 (.bool false))))
  clear hBZ hgZ
  go_wp2
  go_ret
  exact ⟨rfl, by rw [show It.cs (.slice (some ⟨g, off, none⟩) n cp) E (It.con t e) = _ from by unfold It.con; rw [HV.out.2.2]]; exact HW.out.1, HW.out.2⟩
end Go.Proofs.YtdeaodgcdacleaaDoor.ItH
