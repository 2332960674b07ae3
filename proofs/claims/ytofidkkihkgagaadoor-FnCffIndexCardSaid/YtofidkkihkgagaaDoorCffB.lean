/- Contracts of the reading of an index of CFF: the package, its export, and the thin package over them. -/
import Derived.Test.YtofidkkihkgagaaDoorCffA
namespace Go.Proofs.YtofidkkihkgagaaDoor.CffB
open Go.ChangeShapes Go.WideShapes Go.ChangeAt Go.RowKit
open Lst Mem SpecB SfntB View FourB CffA

theorem cell_grown {w w' : World} {b i : Nat} {u : Value} {row : Option Nat} (hc : w.cell? ⟨b, i, none⟩ = some u) (hg : w.grownBy w' row) (hne : some b ≠ row) : w'.cell? ⟨b, i, none⟩ = some u :=
  (World.cell?_of_block (hg.block b (World.block_lt_of_cell? w _ hc) hne)).trans hc
theorem gr_trans {a b c : World} {row : Option Nat} (h : a.grownBy b row) (k : b.grownBy c row) : a.grownBy c row :=
  ⟨k.os.trans h.os, k.tape.trans h.tape, k.output.trans h.output, Nat.le_trans h.size k.size, fun i hi hn => (k.block i (Nat.lt_of_lt_of_le hi h.size) hn).trans (h.block i hi hn)⟩

set_option maxHeartbeats 1600000 in
theorem header_any (pb sb g n c : Nat) (cnt sz : Int) (buf : Value) (w : World) (hp : Par w pb sb 0 n buf) (hs : w.cell? ⟨sb, 0, none⟩ = some (.slice (some ⟨g, 0, none⟩) n c)) (h2 : 3 ≤ n) (h3 : n ≤ c) (hn : n ≤ 100000000)
    (hcnt : 0 < cnt ∧ cnt ≤ 65535) (hsz : 1 ≤ sz ∧ sz ≤ 4) (hpg : pb ≠ g) (hps : pb ≠ sb)
    (k0 : w.cell? ⟨g, 0, none⟩ = some (.int .u8 (hi cnt))) (k1 : w.cell? ⟨g, 1, none⟩ = some (.int .u8 (lo cnt))) (k2 : w.cell? ⟨g, 2, none⟩ = some (.int .u8 sz)) :
    Calls Tryd.prog 24 #[.pointer (some ⟨pb, 0, none⟩)] w
      fun e w' => e = .returned (.tuple #[.int .i32 cnt, .int .i32 sz, .bool true]) ∧ (∃ buf', Par w' pb sb 3 n buf') ∧ w.grownBy w' (some pb) := by
  have HR := Lib.hid (read_any pb sb g n c 0 2 buf w hp hs (by omega) (by omega) h3 hn)
  have HS := Lib.hid hs
  have K0 := Lib.hid k0
  have K1 := Lib.hid k1
  have K2 := Lib.hid k2
  have hne1 : some g ≠ some pb := fun e => hpg (by injection e with e; exact e.symm)
  have hne2 : some sb ≠ some pb := fun e => hps (by injection e with e; exact e.symm)
  have w1 : IntKind.i32.wrap cnt = cnt := IntWalk.i32_in _ (by omega)
  have w2 : IntKind.i32.wrap sz = sz := IntWalk.i32_in _ (by omega)
  have z0 : (cnt == 0) = false := by simp; omega
  clear hp hs k0 k1 k2
  go_enter Tryd.func24, Tryd.ntmps24
  go_wp2_with fail
  refine HR.out.mono ?_
  rintro e w2 ⟨rfl, hp2, hg2⟩
  have q0 := cell_grown K0.out hg2 hne1
  have q1 := cell_grown K1.out hg2 hne1
  have q2 := cell_grown K2.out hg2 hne1
  have qs := cell_grown HS.out hg2 hne2
  have hu := u16_any g 0 2 c (hi cnt) (lo cnt) w2 (by omega) (hi_bd cnt) (lo_bd cnt) q0 q1
  rw [show hi cnt * 256 + lo cnt = cnt by unfold hi lo; omega] at hu
  have hr2 := read_any pb sb g n c 2 1 _ w2 hp2 qs (by omega) (by omega) h3 hn
  have HU := Lib.hid hu
  have HP2 := Lib.hid hp2
  have HG2 := Lib.hid hg2
  have QS := Lib.hid qs
  have Q2 := Lib.hid q2
  obtain ⟨s1, s2, s3, s4, s5, s6, s7, s8⟩ := hp2
  clear q0 q1 q2 qs hu hr2 hg2 s1 s2 s3 s4 s6 s7 s8
  simp only [Nat.sub_zero] at s5
  go_wp2_with fail
  refine HU.out.mono ?_
  rintro e w3 ⟨rfl, rfl⟩
  have hr3 := read_any pb sb g n c 2 1 _ w2.drew HP2.out.drew QS.out (by omega) (by omega) h3 hn
  have HR3 := Lib.hid hr3
  clear hr3
  go_wp2_with fail
  refine HR3.out.mono ?_
  rintro e w3 ⟨rfl, hp3, hg3⟩
  have q3 := cell_grown (w := w2.drew) Q2.out hg3 hne1
  have HP3 := Lib.hid hp3
  have HG3 := Lib.hid hg3
  have s5' := hp3.buf
  clear hp3 hg3 s5
  go_wp2
  exact bodyPost_ret (v := .tuple #[.int .i32 cnt, .int .i32 sz, .bool true]) (by simp [results, Tryd.results24, go_sem]) rfl ⟨rfl, ⟨_, HP3.out⟩, gr_trans (gr_draw HG2.out) HG3.out⟩

set_option maxHeartbeats 800000 in
theorem be_any (g off c W : Nat) (a : Int) (w : World) (hW : W = 2 ∨ W = 3 ∨ W = 4) (ha : 0 ≤ a ∧ a ≤ 65535) (hA : At w g off (vals .u8 ((four a).drop (4 - W)))) :
    Calls Tryd.prog 30 #[.slice (some ⟨g, off, none⟩) W c] w fun e w' => e = .returned (.int .u32 a) ∧ w.drew = w' := by
  have hh : 0 ≤ hi a ∧ hi a ≤ 255 := hi_bd a
  have hl : 0 ≤ lo a ∧ lo a ≤ 255 := lo_bd a
  have z1 : lo (a / 65536) = 0 := by unfold lo; omega
  have z2 : hi (a / 65536) = 0 := by unfold hi; omega
  have hj : hi a * 256 + lo a = a := by unfold hi lo; omega
  obtain ⟨x, hx⟩ : ∃ x, x = hi a := ⟨_, rfl⟩
  obtain ⟨y, hy⟩ : ∃ y, y = lo a := ⟨_, rfl⟩
  unfold four at hA
  rw [z1, z2, ← hx, ← hy] at hA
  rw [← hx] at hh hj
  rw [← hy] at hl hj
  have p8 : (2 : Int) ^ 8 = 256 := by decide
  have p16 : (2 : Int) ^ 16 = 65536 := by decide
  have p24 : (2 : Int) ^ 24 = 16777216 := by decide
  have e3 : IntKind.u32.wrap (x * 256) = x * 256 := IntWalk.u32_in _ (by omega)
  have e4 : IntKind.u32.wrap x = x := IntWalk.u32_in _ (by omega)
  have e5 : IntKind.u32.wrap y = y := IntWalk.u32_in _ (by omega)
  have e6 : IntKind.u32.wrap 0 = 0 := IntWalk.u32_in _ (by omega)
  have b3 := or_u32 8 (x * 256) y (by omega) (by rw [p8]; omega) (by omega) (by rw [p8]; omega) (by rw [p8]; omega)
  have b2 := or_u32 16 0 (x * 256) (by omega) (by decide) (by omega) (by rw [p16]; omega) (by rw [p16]; omega)
  have b1 := or_u32 24 0 0 (by omega) (by decide) (by omega) (by rw [p24]; omega) (by rw [p24]; omega)
  rw [Int.zero_add] at b2 b1
  rw [hj] at b3
  have HH := Lib.hid hh
  have HL := Lib.hid hl
  clear p8 p16 p24 z1 z2 hj hx hy hh hl
  rcases hW with rfl | rfl | rfl
  · have k0 : w.cell? ⟨g, off, none⟩ = some (.int .u8 x) := hA 0 _ rfl
    have k1 : w.cell? ⟨g, off + 1, none⟩ = some (.int .u8 y) := hA 1 _ rfl
    clear hA b1 b2
    go_enter Tryd.func30, Tryd.ntmps30
    go_wp2
    go_region_held3 (fun w' => w'.cell? ⟨g, off, none⟩ = some (.int .u8 x) ∧ w'.cell? ⟨g, off + 1, none⟩ = some (.int .u8 y)) (exact ⟨k0, k1⟩) (fail)
    go_wp2
    go_ret
    exact ⟨rfl, rfl⟩
  · have k0 : w.cell? ⟨g, off, none⟩ = some (.int .u8 0) := hA 0 _ rfl
    have k1 : w.cell? ⟨g, off + 1, none⟩ = some (.int .u8 x) := hA 1 _ rfl
    have k2 : w.cell? ⟨g, off + 2, none⟩ = some (.int .u8 y) := hA 2 _ rfl
    clear hA b1
    go_enter Tryd.func30, Tryd.ntmps30
    go_wp2
    go_region_held3 (fun w' => w'.cell? ⟨g, off, none⟩ = some (.int .u8 0) ∧ w'.cell? ⟨g, off + 1, none⟩ = some (.int .u8 x) ∧ w'.cell? ⟨g, off + 2, none⟩ = some (.int .u8 y)) (exact ⟨k0, k1, k2⟩) (fail)
    go_wp2
    go_ret
    exact ⟨rfl, rfl⟩
  · have k0 : w.cell? ⟨g, off, none⟩ = some (.int .u8 0) := hA 0 _ rfl
    have k1 : w.cell? ⟨g, off + 1, none⟩ = some (.int .u8 0) := hA 1 _ rfl
    have k2 : w.cell? ⟨g, off + 2, none⟩ = some (.int .u8 x) := hA 2 _ rfl
    have k3 : w.cell? ⟨g, off + 3, none⟩ = some (.int .u8 y) := hA 3 _ rfl
    clear hA
    go_enter Tryd.func30, Tryd.ntmps30
    go_wp2
    go_region_held3 (fun w' => w'.cell? ⟨g, off, none⟩ = some (.int .u8 0) ∧ w'.cell? ⟨g, off + 1, none⟩ = some (.int .u8 0) ∧ w'.cell? ⟨g, off + 2, none⟩ = some (.int .u8 x) ∧ w'.cell? ⟨g, off + 3, none⟩ = some (.int .u8 y)) (exact ⟨k0, k1, k2, k3⟩) (fail)
    go_wp2
    go_ret
    exact ⟨rfl, rfl⟩
end Go.Proofs.YtofidkkihkgagaaDoor.CffB
