/- Contracts of the making of a look-up out of a class table's bytes. -/
import Derived.Test.YtbpcmdgfgibbjaaDoorClsR
import Derived.Test.YtbpcmdgfgibbjaaDoorCopyP
namespace Go.Proofs.YtbpcmdgfgibbjaaDoor.ClsB
open Go.ChangeShapes Go.WideShapes Go.ChangeAt Go.RowKit
open Lst Mem SpecB SfntB View SearchB CovA CovB CopyB CopyP ClsR

/-- what a look-up in a row of classes keeps -/
def Kept1 (w : World) (sb nb vb lb : Nat) (s : Int) (n len : Nat) (bs : List Int) : Prop :=
  w.cell? ⟨sb, 0, none⟩ = some (.int .u16 s) ∧ w.cell? ⟨nb, 0, none⟩ = some (.int .u16 (n : Int)) ∧ w.cell? ⟨vb, 0, none⟩ = some (.slice (some ⟨lb, 0, none⟩) len len) ∧ At w lb 0 (vals .u8 bs)
def Made1 (s : Int) (n len : Nat) (bs : List Int) (w : World) (e : Ending) (w' : World) : Prop :=
  ∃ sb nb vb lb, e = .returned (.func (.func 26) #[] #[.pointer (some ⟨sb, 0, none⟩), .pointer (some ⟨nb, 0, none⟩), .pointer (some ⟨vb, 0, none⟩)]) ∧ Kept1 w' sb nb vb lb s n len bs ∧ Below w.heap.size w w'

set_option maxHeartbeats 1600000 in
theorem mk1_any (g c n R : Nat) (s : Int) (bs : List Int) (w : World) (hl : R = bs.length) (hs : 0 ≤ s ∧ s ≤ 65535) (hn : n ≤ 65535) (hR : R ≤ 1000000) (hc : 6 + R ≤ c) (h0 : 0 < R) (hg : g < w.heap.size)
    (k2 : w.cell? ⟨g, 2, none⟩ = some (.int .u8 (hi s))) (k3 : w.cell? ⟨g, 3, none⟩ = some (.int .u8 (lo s))) (k4 : w.cell? ⟨g, 4, none⟩ = some (.int .u8 (hi n))) (k5 : w.cell? ⟨g, 5, none⟩ = some (.int .u8 (lo n))) (hA : At w g 6 (vals .u8 bs)) :
    Calls Tryd.prog 22 #[.slice (some ⟨g, 0, none⟩) (6 + R) c] w (Made1 s n (R + 2) bs w) := by
  obtain ⟨i0, hi0, hz0, hz1, hz2⟩ := info_parts u8info
  have hu := u16_any g 2 (6 + R - 2) (c - 2) (hi s) (lo s) w (by omega) (hi_bd s) (lo_bd s) k2 k3
  rw [key_join s hs, show 6 + R - 2 = 4 + R by omega] at hu
  have HU := Lib.hid hu
  have HU2 := Lib.hid (fun (W : World) (c4 : W.cell? ⟨g, 4, none⟩ = some (.int .u8 (hi n))) (c5 : W.cell? ⟨g, 5, none⟩ = some (.int .u8 (lo n))) => (show Calls Tryd.prog 20 #[.slice (some ⟨g, 4, none⟩) (2 + R) (c - 4)] W fun e w' => e = .returned (.int .u16 (n : Int)) ∧ W.drew = w' from by
    have h := u16_any g 4 (2 + R) (c - 4) (hi n) (lo n) W (by omega) (hi_bd n) (lo_bd n) c4 c5
    rw [key_join n (by omega)] at h
    exact h))
  have K4 := Lib.hid (And.intro k4 k5)
  have HL := Lib.hid hl
  have HA := Lib.hid hA
  have e1 : 6 + R - 2 = 4 + R := by omega
  have e2 : 6 + R - 4 = 2 + R := by omega
  have e3 : 6 + R - 6 = R := by omega
  have e4 : (6 : Int) + (R : Int) - 4 = ((R + 2 : Nat) : Int) := by omega
  have e5 : ((6 + R : Nat) : Int) - 4 = ((R + 2 : Nat) : Int) := by omega
  have t1 : ¬ (c = 2) := by omega
  have t2 : ¬ (c = 4) := by omega
  have t3 : ¬ (c = 6) := by omega
  have t4 : (2 : Int) ≤ 6 + (R : Int) := by omega
  have t5 : (4 : Int) ≤ 6 + (R : Int) := by omega
  have t6 : (6 : Int) ≤ 6 + (R : Int) := by omega
  clear hu hl hA k2 k3 k4 k5
  go_enter Tryd.func22, Tryd.ntmps22
  go_wp2_with fail
  refine HU.out.mono ?_
  rintro e w2 ⟨rfl, rfl⟩
  go_wp2_with fail
  refine (HU2.out (w.alloc (.cells #[.int .u16 s] 28)).drew (keep_new K4.out.1) (keep_new K4.out.2)).mono ?_
  rintro e w2 ⟨rfl, rfl⟩
  go_wp2_with (at_make; refine wpList_make_full _ rfl _ _ 26 rfl w.heap.size 5 i0 (.int .u8 0) 1 Tryd.underlying26 hi0 hz0 hz1 .i64 .i64 _ _ (R + 2) rfl rfl ?c1 ?c2 ?c3 ?c4 ?c5 ?_)
  case c1 => go_simp
  case c2 => go_simp
  case c3 => rw [hz2]; omega
  case c4 => unfold maxLen; omega
  case c5 => simp; omega
  intro w3 hown hgrow
  have ho0 : w3.ownsRow w.heap.size 5 1 (.slice (some ⟨w.heap.size + 1 + 1, 0, none⟩) (R + 2) (R + 2)) (R + 2) (madeCells #[Value.int .u8 0] (R + 2)).toList := hown
  have hb3 : Below w.heap.size w w3 := (Below.drew (Below.drew ((bel_made w #[.int .u16 s] 28).alloc (by simp) (.cells #[.int .u16 (n : Int)] 28)))).grown (by exact hgrow) (by simp; omega) (fun g hg => by cases hg)
  have ks : w3.cell? ⟨w.heap.size, 0, none⟩ = some (.int .u16 s) := by
    rw [World.cell?_of_block (hgrow.block w.heap.size (by simp; omega) (by simp))]
    exact keep_new (W := (w.alloc (.cells #[.int .u16 s] 28))) (by simp)
  have kn : w3.cell? ⟨w.heap.size + 1, 0, none⟩ = some (.int .u16 (n : Int)) := by
    rw [World.cell?_of_block (hgrow.block (w.heap.size + 1) (by simp) (by simp))]
    have h : ((w.alloc (.cells #[.int .u16 s] 28)).alloc (.cells #[.int .u16 (n : Int)] 28)).cell? ⟨(w.alloc (.cells #[.int .u16 s] 28)).heap.size, 0, none⟩ = some (.int .u16 (n : Int)) := by simp
    rw [World.size_alloc] at h
    exact h
  have hsz3 : w.heap.size + 1 + 1 < w3.heap.size := (ho0.lt (w.heap.size + 1 + 1) rfl).2
  have hA3 := At.below HA.out hb3 hg
  have HO := Lib.hid (ho0.alloc (.cells #[.slice (some ⟨w.heap.size + 1 + 1, 0, none⟩) (R + 2) (R + 2)] 26))
  have HB := Lib.hid (hb3.alloc hb3.size (.cells #[.slice (some ⟨w.heap.size + 1 + 1, 0, none⟩) (R + 2) (R + 2)] 26))
  have HR := Lib.hid (show Rd (w3.alloc (.cells #[.slice (some ⟨w.heap.size + 1 + 1, 0, none⟩) (R + 2) (R + 2)] 26)) (some ⟨g, 6, none⟩) R (c - 6) (vals .u8 bs) from by
    have := (Rd.of_At (c := c - 6) hA3).new (.cells #[.slice (some ⟨w.heap.size + 1 + 1, 0, none⟩) (R + 2) (R + 2)] 26)
    rwa [vals_len, ← HL.out] at this)
  have KS := Lib.hid (keep_new (o := .cells #[.slice (some ⟨w.heap.size + 1 + 1, 0, none⟩) (R + 2) (R + 2)] 26) ks)
  have KN := Lib.hid (keep_new (o := .cells #[.slice (some ⟨w.heap.size + 1 + 1, 0, none⟩) (R + 2) (R + 2)] 26) kn)
  have kv : (w3.alloc (.cells #[.slice (some ⟨w.heap.size + 1 + 1, 0, none⟩) (R + 2) (R + 2)] 26)).cell? ⟨w3.heap.size, 0, none⟩ = some (.slice (some ⟨w.heap.size + 1 + 1, 0, none⟩) (R + 2) (R + 2)) := by simp
  clear ho0 hb3 ks kn hown hgrow hA3
  go_wp2_with fail
  go_region_law (first | (refine step_part _ rfl (.tmp 16) (.tmp 18) 26 rfl w.heap.size 5 (w.heap.size + 1 + 1) (R + 2) R (c - 6) _ ⟨g, 6, none⟩ (vals .u8 bs) Tryd.underlying26 (by kernel_rfl) (by omega) (by simp [Act.eval]) (by simp [Act.eval]) HO.out.drew (rd_drew HR.out) (vals_one _ _) ?_; intro w4 ho4 hg4))
  have ks4 := cell_grown (w := (w3.alloc (.cells #[.slice (some ⟨w.heap.size + 1 + 1, 0, none⟩) (R + 2) (R + 2)] 26)).drew) KS.out hg4 (by simp; omega)
  have kn4 := cell_grown (w := (w3.alloc (.cells #[.slice (some ⟨w.heap.size + 1 + 1, 0, none⟩) (R + 2) (R + 2)] 26)).drew) KN.out hg4 (by simp)
  have kv4 := cell_grown (w := (w3.alloc (.cells #[.slice (some ⟨w.heap.size + 1 + 1, 0, none⟩) (R + 2) (R + 2)] 26)).drew) kv hg4 (by simp; omega)
  have hA4 := At.front (At.of_own ho4)
  have hb4 : Below w.heap.size w w4 := (HB.out.drew).grown hg4 HB.out.size (fun g hg => by cases hg; omega)
  have HE := Lib.hid (show Kept1 w4 w.heap.size (w.heap.size + 1) w3.heap.size (w.heap.size + 1 + 1) s n (R + 2) bs ∧ Below w.heap.size w w4 from ⟨⟨ks4, kn4, kv4, hA4⟩, hb4⟩)
  clear ks4 kn4 kv4 hA4 hb4 ho4 hg4 kv
  go_wp2
  go_ret
  exact ⟨_, _, _, _, rfl, HE.out.1, HE.out.2⟩

set_option maxHeartbeats 1600000 in
theorem mk2_any (g c n R : Nat) (bs : List Int) (w : World) (hl : R = bs.length) (hn : n ≤ 65535) (hR : R ≤ 1000000) (hc : 4 + R ≤ c) (h0 : 0 < R) (hg : g < w.heap.size)
    (k2 : w.cell? ⟨g, 2, none⟩ = some (.int .u8 (hi n))) (k3 : w.cell? ⟨g, 3, none⟩ = some (.int .u8 (lo n))) (hA : At w g 4 (vals .u8 bs)) :
    Calls Tryd.prog 23 #[.slice (some ⟨g, 0, none⟩) (4 + R) c] w (MadeFn 27 n (R + 2) bs w) := by
  obtain ⟨i0, hi0, hz0, hz1, hz2⟩ := info_parts u8info
  have hu := u16_any g 2 (4 + R - 2) (c - 2) (hi n) (lo n) w (by omega) (hi_bd n) (lo_bd n) k2 k3
  rw [key_join n (by omega), show 4 + R - 2 = 2 + R by omega] at hu
  have HU := Lib.hid hu
  have HL := Lib.hid hl
  have HA := Lib.hid hA
  have w1 : IntKind.i64.wrap (n : Int) = n := IntWalk.i64_in _ (by omega)
  have e1 : 4 + R - 2 = 2 + R := by omega
  have e2 : 4 + R - 4 = R := by omega
  have e4 : (4 : Int) + (R : Int) - 2 = ((R + 2 : Nat) : Int) := by omega
  have e5 : ((4 + R : Nat) : Int) - 2 = ((R + 2 : Nat) : Int) := by omega
  have t1 : ¬ (c = 2) := by omega
  have t2 : ¬ (c = 4) := by omega
  have t4 : (2 : Int) ≤ 4 + (R : Int) := by omega
  have t5 : (4 : Int) ≤ 4 + (R : Int) := by omega
  clear hu hl hA k2 k3
  go_enter Tryd.func23, Tryd.ntmps23
  go_wp2_with fail
  refine HU.out.mono ?_
  rintro e w2 ⟨rfl, rfl⟩
  go_wp2_with (at_make; refine wpList_make_full _ rfl _ _ 26 rfl w.heap.size 5 i0 (.int .u8 0) 1 Tryd.underlying26 hi0 hz0 hz1 .i64 .i64 _ _ (R + 2) rfl rfl ?c1 ?c2 ?c3 ?c4 ?c5 ?_)
  case c1 => go_simp
  case c2 => go_simp
  case c3 => rw [hz2]; omega
  case c4 => unfold maxLen; omega
  case c5 => simp
  intro w3 hown hgrow
  have ho0 : w3.ownsRow w.heap.size 5 1 (.slice (some ⟨w.heap.size + 1, 0, none⟩) (R + 2) (R + 2)) (R + 2) (madeCells #[Value.int .u8 0] (R + 2)).toList := by simpa using hown
  have hb3 : Below w.heap.size w w3 := (Below.drew (bel_made w #[.int .i64 (n : Int)] 3)).grown (by exact hgrow) (by simp) (fun g hg => by cases hg)
  have kn : w3.cell? ⟨w.heap.size, 0, none⟩ = some (.int .i64 (n : Int)) := by
    rw [World.cell?_of_block (hgrow.block w.heap.size (by simp) (by simp))]; simp
  have hsz3 : w.heap.size + 1 < w3.heap.size := (ho0.lt (w.heap.size + 1) rfl).2
  have hA3 := At.below HA.out hb3 hg
  have HO := Lib.hid (ho0.alloc (.cells #[.slice (some ⟨w.heap.size + 1, 0, none⟩) (R + 2) (R + 2)] 26))
  have HB := Lib.hid (hb3.alloc hb3.size (.cells #[.slice (some ⟨w.heap.size + 1, 0, none⟩) (R + 2) (R + 2)] 26))
  have HR := Lib.hid (show Rd (w3.alloc (.cells #[.slice (some ⟨w.heap.size + 1, 0, none⟩) (R + 2) (R + 2)] 26)) (some ⟨g, 4, none⟩) R (c - 4) (vals .u8 bs) from by
    have := (Rd.of_At (c := c - 4) hA3).new (.cells #[.slice (some ⟨w.heap.size + 1, 0, none⟩) (R + 2) (R + 2)] 26)
    rwa [vals_len, ← HL.out] at this)
  have KN := Lib.hid (keep_new (o := .cells #[.slice (some ⟨w.heap.size + 1, 0, none⟩) (R + 2) (R + 2)] 26) kn)
  have kv : (w3.alloc (.cells #[.slice (some ⟨w.heap.size + 1, 0, none⟩) (R + 2) (R + 2)] 26)).cell? ⟨w3.heap.size, 0, none⟩ = some (.slice (some ⟨w.heap.size + 1, 0, none⟩) (R + 2) (R + 2)) := by simp
  clear ho0 hb3 kn hown hgrow hA3
  go_wp2_with fail
  go_region_law (first | (refine step_part _ rfl (.tmp 13) (.tmp 15) 26 rfl w.heap.size 5 (w.heap.size + 1) (R + 2) R (c - 4) _ ⟨g, 4, none⟩ (vals .u8 bs) Tryd.underlying26 (by kernel_rfl) (by omega) (by simp [Act.eval]) (by simp [Act.eval]) HO.out.drew (rd_drew HR.out) (vals_one _ _) ?_; intro w4 ho4 hg4))
  have kn4 := cell_grown (w := (w3.alloc (.cells #[.slice (some ⟨w.heap.size + 1, 0, none⟩) (R + 2) (R + 2)] 26)).drew) KN.out hg4 (by simp)
  have kv4 := cell_grown (w := (w3.alloc (.cells #[.slice (some ⟨w.heap.size + 1, 0, none⟩) (R + 2) (R + 2)] 26)).drew) kv hg4 (by simp; omega)
  have hA4 := At.front (At.of_own ho4)
  have hb4 : Below w.heap.size w w4 := (HB.out.drew).grown hg4 HB.out.size (fun g hg => by cases hg; omega)
  have HE := Lib.hid (show Kept w4 w.heap.size w3.heap.size (w.heap.size + 1) n (R + 2) bs ∧ Below w.heap.size w w4 from ⟨⟨kn4, kv4, hA4⟩, hb4⟩)
  clear kn4 kv4 hA4 hb4 ho4 hg4 kv
  go_wp2
  go_ret
  exact ⟨_, _, _, rfl, HE.out.1, HE.out.2⟩
end Go.Proofs.YtbpcmdgfgibbjaaDoor.ClsB
