/- Contracts of the making of a look-up out of a coverage table's bytes. -/
import Derived.Test.YtbpcmdgfgibbjaaDoorCovA
import Derived.Test.YtbpcmdgfgibbjaaDoorCopyB
namespace Go.Proofs.YtbpcmdgfgibbjaaDoor.CovB
open Go.ChangeShapes Go.WideShapes Go.ChangeAt Go.RowKit
open Lst Mem SpecB SfntB View SearchB CovA CopyB

theorem rd_drew {w : World} {A : Option Addr} {m c : Nat} {xs : List Value} (h : Rd w A m c xs) : Rd w.drew A m c xs := h
theorem cell_grown {w w' : World} {b i : Nat} {u : Value} {row : Option Nat} (hc : w.cell? ⟨b, i, none⟩ = some u) (hg : w.grownBy w' row) (hne : some b ≠ row) : w'.cell? ⟨b, i, none⟩ = some u :=
  (World.cell?_of_block (hg.block b (World.block_lt_of_cell? w _ hc) hne)).trans hc
/-- what a look-up keeps: a number, and a slice of bytes of its own -/
def Kept (w : World) (nb vb lb n len : Nat) (bs : List Int) : Prop :=
  w.cell? ⟨nb, 0, none⟩ = some (.int .i64 (n : Int)) ∧ w.cell? ⟨vb, 0, none⟩ = some (.slice (some ⟨lb, 0, none⟩) len len) ∧ At w lb 0 (vals .u8 bs)
/-- a look-up is made -/
def MadeFn (fid : FuncId) (n len : Nat) (bs : List Int) (w : World) (e : Ending) (w' : World) : Prop :=
  ∃ nb vb lb, e = .returned (.func (.func fid) #[] #[.pointer (some ⟨nb, 0, none⟩), .pointer (some ⟨vb, 0, none⟩)]) ∧ Kept w' nb vb lb n len bs ∧ Below w.heap.size w w'

set_option maxHeartbeats 1600000 in
theorem mkList_any (g off c n len : Nat) (bs : List Int) (w : World) (hl : len = bs.length) (hn : n ≤ 65535) (hlen : len ≤ 1000000) (hc : len + 2 ≤ c) (hg : g < w.heap.size)
    (k0 : w.cell? ⟨g, off, none⟩ = some (.int .u8 (hi n))) (k1 : w.cell? ⟨g, off + 1, none⟩ = some (.int .u8 (lo n))) (hA : At w g (off + 2) (vals .u8 bs)) :
    Calls Tryd.prog 24 #[.slice (some ⟨g, off, none⟩) (len + 2) c] w (MadeFn 30 n len bs w) := by
  obtain ⟨i0, hi0, hz0, hz1, hz2⟩ := info_parts u8info
  have hu := u16_any g off (len + 2) c (hi n) (lo n) w (by omega) (hi_bd n) (lo_bd n) k0 k1
  rw [key_join n (by omega)] at hu
  have HU := Lib.hid hu
  have HL := Lib.hid hl
  have HA := Lib.hid hA
  have w1 : IntKind.i64.wrap (n : Int) = n := IntWalk.i64_in _ (by omega)
  have e1 : ((len + 2 : Nat) : Int) - 2 = (len : Int) := by omega
  have e2 : (len : Int) + 2 - 2 = (len : Int) := by omega
  clear hu hl hA k0 k1
  by_cases hc2 : c = 2
  · obtain rfl : len = 0 := by omega
    subst hc2
    obtain rfl : bs = [] := List.eq_nil_of_length_eq_zero HL.out.symm
    go_enter Tryd.func24, Tryd.ntmps24
    go_wp2_with fail
    refine HU.out.mono ?_
    rintro e w2 ⟨rfl, rfl⟩
    go_wp2_with (at_make; refine wpList_make_full _ rfl _ _ 26 rfl w.heap.size 5 i0 (.int .u8 0) 1 Tryd.underlying26 hi0 hz0 hz1 .i64 .i64 _ _ 0 rfl rfl ?c1 ?c2 ?c3 ?c4 ?c5 ?_)
    case c1 => go_simp
    case c2 => go_simp
    case c3 => rw [hz2]; omega
    case c4 => unfold maxLen; omega
    case c5 => simp
    intro w3 hown hgrow
    have ho0 : w3.ownsRow w.heap.size 5 1 (.slice (some ⟨w.heap.size + 1, 0, none⟩) 0 0) 0 (madeCells #[Value.int .u8 0] (0 * 1)).toList := by simpa using hown
    have hb3 : Below w.heap.size w w3 := (Below.drew (bel_made w #[.int .i64 (n : Int)] 3)).grown (by exact hgrow) (by simp) (fun g hg => by cases hg)
    have kn : w3.cell? ⟨w.heap.size, 0, none⟩ = some (.int .i64 (n : Int)) := by
      rw [World.cell?_of_block (hgrow.block w.heap.size (by simp) (by simp))]; simp
    have hsz3 : w.heap.size + 1 < w3.heap.size := (ho0.lt (w.heap.size + 1) rfl).2
    have hA3 := At.below HA.out hb3 hg
    have hlt : (0 + 2) - 2 = 0 := by omega
    have HO := Lib.hid (ho0.alloc (.cells #[.slice (some ⟨w.heap.size + 1, 0, none⟩) 0 0] 26))
    have HB := Lib.hid (hb3.alloc hb3.size (.cells #[.slice (some ⟨w.heap.size + 1, 0, none⟩) 0 0] 26))
    have HR := Lib.hid (show Rd (w3.alloc (.cells #[.slice (some ⟨w.heap.size + 1, 0, none⟩) 0 0] 26)) (some ⟨g, off, none⟩) 0 0 (vals .u8 []) from ⟨rfl, fun ad e j u hu => by simp [vals] at hu, fun h => by cases h⟩)
    have KN := Lib.hid (keep_new (o := .cells #[.slice (some ⟨w.heap.size + 1, 0, none⟩) 0 0] 26) kn)
    have kv : (w3.alloc (.cells #[.slice (some ⟨w.heap.size + 1, 0, none⟩) 0 0] 26)).cell? ⟨w3.heap.size, 0, none⟩ = some (.slice (some ⟨w.heap.size + 1, 0, none⟩) 0 0) := by simp
    have q2 : (2 : Int) ≤ (0 : Int) + 2 := by omega
    clear ho0 hb3 kn hown hgrow hA3
    go_wp2_with fail
    go_region_law (first | (refine step_copy _ rfl (.tmp 12) (.tmp 14) 26 rfl w.heap.size 5 (w.heap.size + 1) 0 0 _ (some ⟨g, off, none⟩) (vals .u8 []) Tryd.underlying26 (by kernel_rfl) (by simp [Act.eval]) (by simp [Act.eval]) HO.out.drew (rd_drew HR.out) (vals_one _ _) ?_; intro w4 ho4 hg4))
    have kn4 := cell_grown (w := (w3.alloc (.cells #[.slice (some ⟨w.heap.size + 1, 0, none⟩) 0 0] 26)).drew) KN.out hg4 (by simp)
    have kv4 := cell_grown (w := (w3.alloc (.cells #[.slice (some ⟨w.heap.size + 1, 0, none⟩) 0 0] 26)).drew) kv hg4 (by simp; omega)
    have hA4 := At.of_own ho4
    have hb4 : Below w.heap.size w w4 := (HB.out.drew).grown hg4 HB.out.size (fun g hg => by cases hg; omega)
    have HE := Lib.hid (show Kept w4 w.heap.size w3.heap.size (w.heap.size + 1) n 0 [] ∧ Below w.heap.size w w4 from ⟨⟨kn4, kv4, hA4⟩, hb4⟩)
    clear kn4 kv4 hA4 hb4 ho4 hg4 kv
    go_wp2
    go_ret
    exact ⟨_, _, _, rfl, HE.out.1, HE.out.2⟩
  · go_enter Tryd.func24, Tryd.ntmps24
    go_wp2_with fail
    refine HU.out.mono ?_
    rintro e w2 ⟨rfl, rfl⟩
    go_wp2_with (at_make; refine wpList_make_full _ rfl _ _ 26 rfl w.heap.size 5 i0 (.int .u8 0) 1 Tryd.underlying26 hi0 hz0 hz1 .i64 .i64 _ _ len rfl rfl ?c1 ?c2 ?c3 ?c4 ?c5 ?_)
    case c1 => go_simp
    case c2 => go_simp
    case c3 => rw [hz2]; omega
    case c4 => unfold maxLen; omega
    case c5 => simp
    intro w3 hown hgrow
    have ho0 : w3.ownsRow w.heap.size 5 1 (.slice (some ⟨w.heap.size + 1, 0, none⟩) len len) len (madeCells #[Value.int .u8 0] (len * 1)).toList := by simpa using hown
    have hb3 : Below w.heap.size w w3 := (Below.drew (bel_made w #[.int .i64 (n : Int)] 3)).grown (by exact hgrow) (by simp) (fun g hg => by cases hg)
    have kn : w3.cell? ⟨w.heap.size, 0, none⟩ = some (.int .i64 (n : Int)) := by
      rw [World.cell?_of_block (hgrow.block w.heap.size (by simp) (by simp))]; simp
    have hsz3 : w.heap.size + 1 < w3.heap.size := (ho0.lt (w.heap.size + 1) rfl).2
    have hA3 := At.below HA.out hb3 hg
    have hlt : (len + 2) - 2 = len := by omega
    have HO := Lib.hid (ho0.alloc (.cells #[.slice (some ⟨w.heap.size + 1, 0, none⟩) len len] 26))
    have HB := Lib.hid (hb3.alloc hb3.size (.cells #[.slice (some ⟨w.heap.size + 1, 0, none⟩) len len] 26))
    have HR := Lib.hid (show Rd (w3.alloc (.cells #[.slice (some ⟨w.heap.size + 1, 0, none⟩) len len] 26)) (some ⟨g, off + 2, none⟩) len (c - 2) (vals .u8 bs) from by
      have := (Rd.of_At (c := c - 2) hA3).new (.cells #[.slice (some ⟨w.heap.size + 1, 0, none⟩) len len] 26)
      rwa [vals_len, ← HL.out] at this)
    have KN := Lib.hid (keep_new (o := .cells #[.slice (some ⟨w.heap.size + 1, 0, none⟩) len len] 26) kn)
    have kv : (w3.alloc (.cells #[.slice (some ⟨w.heap.size + 1, 0, none⟩) len len] 26)).cell? ⟨w3.heap.size, 0, none⟩ = some (.slice (some ⟨w.heap.size + 1, 0, none⟩) len len) := by simp
    have q2 : (2 : Int) ≤ (len : Int) + 2 := by omega
    clear ho0 hb3 kn hown hgrow hA3
    go_wp2_with fail
    go_region_law (first | (refine step_copy _ rfl (.tmp 12) (.tmp 14) 26 rfl w.heap.size 5 (w.heap.size + 1) len (c - 2) _ (some ⟨g, off + 2, none⟩) (vals .u8 bs) Tryd.underlying26 (by kernel_rfl) (by simp [Act.eval]) (by simp [Act.eval]) HO.out.drew (rd_drew HR.out) (vals_one _ _) ?_; intro w4 ho4 hg4))
    have kn4 := cell_grown (w := (w3.alloc (.cells #[.slice (some ⟨w.heap.size + 1, 0, none⟩) len len] 26)).drew) KN.out hg4 (by simp)
    have kv4 := cell_grown (w := (w3.alloc (.cells #[.slice (some ⟨w.heap.size + 1, 0, none⟩) len len] 26)).drew) kv hg4 (by simp; omega)
    have hA4 := At.of_own ho4
    have hb4 : Below w.heap.size w w4 := (HB.out.drew).grown hg4 HB.out.size (fun g hg => by cases hg; omega)
    have HE := Lib.hid (show Kept w4 w.heap.size w3.heap.size (w.heap.size + 1) n len bs ∧ Below w.heap.size w w4 from ⟨⟨kn4, kv4, hA4⟩, hb4⟩)
    clear kn4 kv4 hA4 hb4 ho4 hg4 kv
    go_wp2
    go_ret
    exact ⟨_, _, _, rfl, HE.out.1, HE.out.2⟩

set_option maxHeartbeats 1600000 in
theorem mkRange_any (g off c n len : Nat) (bs : List Int) (w : World) (hl : len = bs.length) (hn : n ≤ 65535) (hlen : len ≤ 1000000) (hc : len + 2 ≤ c) (hg : g < w.heap.size)
    (k0 : w.cell? ⟨g, off, none⟩ = some (.int .u8 (hi n))) (k1 : w.cell? ⟨g, off + 1, none⟩ = some (.int .u8 (lo n))) (hA : At w g (off + 2) (vals .u8 bs)) :
    Calls Tryd.prog 25 #[.slice (some ⟨g, off, none⟩) (len + 2) c] w (MadeFn 32 n len bs w) := by
  obtain ⟨i0, hi0, hz0, hz1, hz2⟩ := info_parts u8info
  have hu := u16_any g off (len + 2) c (hi n) (lo n) w (by omega) (hi_bd n) (lo_bd n) k0 k1
  rw [key_join n (by omega)] at hu
  have HU := Lib.hid hu
  have HL := Lib.hid hl
  have HA := Lib.hid hA
  have w1 : IntKind.i64.wrap (n : Int) = n := IntWalk.i64_in _ (by omega)
  have e1 : ((len + 2 : Nat) : Int) - 2 = (len : Int) := by omega
  have e2 : (len : Int) + 2 - 2 = (len : Int) := by omega
  clear hu hl hA k0 k1
  by_cases hc2 : c = 2
  · obtain rfl : len = 0 := by omega
    subst hc2
    obtain rfl : bs = [] := List.eq_nil_of_length_eq_zero HL.out.symm
    go_enter Tryd.func25, Tryd.ntmps25
    go_wp2_with fail
    refine HU.out.mono ?_
    rintro e w2 ⟨rfl, rfl⟩
    go_wp2_with (at_make; refine wpList_make_full _ rfl _ _ 26 rfl w.heap.size 5 i0 (.int .u8 0) 1 Tryd.underlying26 hi0 hz0 hz1 .i64 .i64 _ _ 0 rfl rfl ?c1 ?c2 ?c3 ?c4 ?c5 ?_)
    case c1 => go_simp
    case c2 => go_simp
    case c3 => rw [hz2]; omega
    case c4 => unfold maxLen; omega
    case c5 => simp
    intro w3 hown hgrow
    have ho0 : w3.ownsRow w.heap.size 5 1 (.slice (some ⟨w.heap.size + 1, 0, none⟩) 0 0) 0 (madeCells #[Value.int .u8 0] (0 * 1)).toList := by simpa using hown
    have hb3 : Below w.heap.size w w3 := (Below.drew (bel_made w #[.int .i64 (n : Int)] 3)).grown (by exact hgrow) (by simp) (fun g hg => by cases hg)
    have kn : w3.cell? ⟨w.heap.size, 0, none⟩ = some (.int .i64 (n : Int)) := by
      rw [World.cell?_of_block (hgrow.block w.heap.size (by simp) (by simp))]; simp
    have hsz3 : w.heap.size + 1 < w3.heap.size := (ho0.lt (w.heap.size + 1) rfl).2
    have hA3 := At.below HA.out hb3 hg
    have hlt : (0 + 2) - 2 = 0 := by omega
    have HO := Lib.hid (ho0.alloc (.cells #[.slice (some ⟨w.heap.size + 1, 0, none⟩) 0 0] 26))
    have HB := Lib.hid (hb3.alloc hb3.size (.cells #[.slice (some ⟨w.heap.size + 1, 0, none⟩) 0 0] 26))
    have HR := Lib.hid (show Rd (w3.alloc (.cells #[.slice (some ⟨w.heap.size + 1, 0, none⟩) 0 0] 26)) (some ⟨g, off, none⟩) 0 0 (vals .u8 []) from ⟨rfl, fun ad e j u hu => by simp [vals] at hu, fun h => by cases h⟩)
    have KN := Lib.hid (keep_new (o := .cells #[.slice (some ⟨w.heap.size + 1, 0, none⟩) 0 0] 26) kn)
    have kv : (w3.alloc (.cells #[.slice (some ⟨w.heap.size + 1, 0, none⟩) 0 0] 26)).cell? ⟨w3.heap.size, 0, none⟩ = some (.slice (some ⟨w.heap.size + 1, 0, none⟩) 0 0) := by simp
    have q2 : (2 : Int) ≤ (0 : Int) + 2 := by omega
    clear ho0 hb3 kn hown hgrow hA3
    go_wp2_with fail
    go_region_law (first | (refine step_copy _ rfl (.tmp 12) (.tmp 14) 26 rfl w.heap.size 5 (w.heap.size + 1) 0 0 _ (some ⟨g, off, none⟩) (vals .u8 []) Tryd.underlying26 (by kernel_rfl) (by simp [Act.eval]) (by simp [Act.eval]) HO.out.drew (rd_drew HR.out) (vals_one _ _) ?_; intro w4 ho4 hg4))
    have kn4 := cell_grown (w := (w3.alloc (.cells #[.slice (some ⟨w.heap.size + 1, 0, none⟩) 0 0] 26)).drew) KN.out hg4 (by simp)
    have kv4 := cell_grown (w := (w3.alloc (.cells #[.slice (some ⟨w.heap.size + 1, 0, none⟩) 0 0] 26)).drew) kv hg4 (by simp; omega)
    have hA4 := At.of_own ho4
    have hb4 : Below w.heap.size w w4 := (HB.out.drew).grown hg4 HB.out.size (fun g hg => by cases hg; omega)
    have HE := Lib.hid (show Kept w4 w.heap.size w3.heap.size (w.heap.size + 1) n 0 [] ∧ Below w.heap.size w w4 from ⟨⟨kn4, kv4, hA4⟩, hb4⟩)
    clear kn4 kv4 hA4 hb4 ho4 hg4 kv
    go_wp2
    go_ret
    exact ⟨_, _, _, rfl, HE.out.1, HE.out.2⟩
  · go_enter Tryd.func25, Tryd.ntmps25
    go_wp2_with fail
    refine HU.out.mono ?_
    rintro e w2 ⟨rfl, rfl⟩
    go_wp2_with (at_make; refine wpList_make_full _ rfl _ _ 26 rfl w.heap.size 5 i0 (.int .u8 0) 1 Tryd.underlying26 hi0 hz0 hz1 .i64 .i64 _ _ len rfl rfl ?c1 ?c2 ?c3 ?c4 ?c5 ?_)
    case c1 => go_simp
    case c2 => go_simp
    case c3 => rw [hz2]; omega
    case c4 => unfold maxLen; omega
    case c5 => simp
    intro w3 hown hgrow
    have ho0 : w3.ownsRow w.heap.size 5 1 (.slice (some ⟨w.heap.size + 1, 0, none⟩) len len) len (madeCells #[Value.int .u8 0] (len * 1)).toList := by simpa using hown
    have hb3 : Below w.heap.size w w3 := (Below.drew (bel_made w #[.int .i64 (n : Int)] 3)).grown (by exact hgrow) (by simp) (fun g hg => by cases hg)
    have kn : w3.cell? ⟨w.heap.size, 0, none⟩ = some (.int .i64 (n : Int)) := by
      rw [World.cell?_of_block (hgrow.block w.heap.size (by simp) (by simp))]; simp
    have hsz3 : w.heap.size + 1 < w3.heap.size := (ho0.lt (w.heap.size + 1) rfl).2
    have hA3 := At.below HA.out hb3 hg
    have hlt : (len + 2) - 2 = len := by omega
    have HO := Lib.hid (ho0.alloc (.cells #[.slice (some ⟨w.heap.size + 1, 0, none⟩) len len] 26))
    have HB := Lib.hid (hb3.alloc hb3.size (.cells #[.slice (some ⟨w.heap.size + 1, 0, none⟩) len len] 26))
    have HR := Lib.hid (show Rd (w3.alloc (.cells #[.slice (some ⟨w.heap.size + 1, 0, none⟩) len len] 26)) (some ⟨g, off + 2, none⟩) len (c - 2) (vals .u8 bs) from by
      have := (Rd.of_At (c := c - 2) hA3).new (.cells #[.slice (some ⟨w.heap.size + 1, 0, none⟩) len len] 26)
      rwa [vals_len, ← HL.out] at this)
    have KN := Lib.hid (keep_new (o := .cells #[.slice (some ⟨w.heap.size + 1, 0, none⟩) len len] 26) kn)
    have kv : (w3.alloc (.cells #[.slice (some ⟨w.heap.size + 1, 0, none⟩) len len] 26)).cell? ⟨w3.heap.size, 0, none⟩ = some (.slice (some ⟨w.heap.size + 1, 0, none⟩) len len) := by simp
    have q2 : (2 : Int) ≤ (len : Int) + 2 := by omega
    clear ho0 hb3 kn hown hgrow hA3
    go_wp2_with fail
    go_region_law (first | (refine step_copy _ rfl (.tmp 12) (.tmp 14) 26 rfl w.heap.size 5 (w.heap.size + 1) len (c - 2) _ (some ⟨g, off + 2, none⟩) (vals .u8 bs) Tryd.underlying26 (by kernel_rfl) (by simp [Act.eval]) (by simp [Act.eval]) HO.out.drew (rd_drew HR.out) (vals_one _ _) ?_; intro w4 ho4 hg4))
    have kn4 := cell_grown (w := (w3.alloc (.cells #[.slice (some ⟨w.heap.size + 1, 0, none⟩) len len] 26)).drew) KN.out hg4 (by simp)
    have kv4 := cell_grown (w := (w3.alloc (.cells #[.slice (some ⟨w.heap.size + 1, 0, none⟩) len len] 26)).drew) kv hg4 (by simp; omega)
    have hA4 := At.of_own ho4
    have hb4 : Below w.heap.size w w4 := (HB.out.drew).grown hg4 HB.out.size (fun g hg => by cases hg; omega)
    have HE := Lib.hid (show Kept w4 w.heap.size w3.heap.size (w.heap.size + 1) n len bs ∧ Below w.heap.size w w4 from ⟨⟨kn4, kv4, hA4⟩, hb4⟩)
    clear kn4 kv4 hA4 hb4 ho4 hg4 kv
    go_wp2
    go_ret
    exact ⟨_, _, _, rfl, HE.out.1, HE.out.2⟩
end Go.Proofs.YtbpcmdgfgibbjaaDoor.CovB
