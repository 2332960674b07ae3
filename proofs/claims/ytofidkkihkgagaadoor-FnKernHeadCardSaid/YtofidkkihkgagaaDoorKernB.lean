/- Contracts of the reading of a kerning table's head: the package, its export, and the thin package over them. -/
import Derived.Test.YtofidkkihkgagaaDoorView
import Derived.Test.YtofidkkihkgagaaDoorAppZ
namespace Go.Proofs.YtofidkkihkgagaaDoor.KernB
open Go.ChangeShapes Go.WideShapes Go.ChangeAt Go.RowKit
open Lst Mem SpecB SfntB View

theorem kern0_any (fb g n c off np : Nat) (x y : Int) (w : World) (hc : w.cell? ⟨fb, 0, none⟩ = some (.slice (some ⟨g, 0, none⟩) n c)) (h2 : off + 8 ≤ n) (h3 : n ≤ c) (hn : n ≤ 100000)
    (hx : 0 ≤ x ∧ x ≤ 255) (hy : 0 ≤ y ∧ y ≤ 255) (hxy : x * 256 + y = (np : Int)) (hnp : np ≤ 1000) (h0 : w.cell? ⟨g, off, none⟩ = some (.int .u8 x)) (h1 : w.cell? ⟨g, off + 1, none⟩ = some (.int .u8 y)) :
    Calls Tryd.prog 22 #[.pointer (some ⟨fb, 0, none⟩), .slice none 0 0, .int .i64 (off : Int), .int .i64 (8 + 6 * (np : Int)), .int .u16 (8 + 6 * (np : Int))] w
      fun e w' => e = .returned (.tuple #[.slice (some ⟨g, off, none⟩) 8 (c - off), .int .i32 (np : Int), .int .i32 ((off : Int) + 8), .nilIface]) ∧ w.drew = w' := by
  have HV := Lib.hid (view_any fb 0 g n c off 8 (.slice none 0 0) w hc (by omega) h2 h3 (by omega))
  have hU := u16_any g off 8 (c - off) x y w (by omega) hx hy h0 h1
  rw [hxy] at hU
  have HU := Lib.hid hU
  clear hU hxy hx hy h0 h1 hc
  have w1 : IntKind.i32.wrap (np : Int) = np := IntWalk.i32_in _ (by omega)
  have w2 : IntKind.i64.wrap (np : Int) = np := IntWalk.i64_in _ (by omega)
  have w3 : IntKind.u16.wrap (8 + 6 * (np : Int)) = 8 + 6 * (np : Int) := IntWalk.u16_in _ (by omega)
  have w4 : IntKind.i32.wrap (off : Int) = off := IntWalk.i32_in _ (by omega)
  go_enter Tryd.func22, Tryd.ntmps22
  go_wp2_with (first | (go_at_call 27; refine HV.out.mono ?_; rintro e w2 ⟨rfl, rfl⟩) | (go_at_call 26; refine HU.out.mono ?_; rintro e w2 ⟨rfl, rfl⟩))
  exact bodyPost_ret (v := .tuple #[.slice (some ⟨g, off, none⟩) 8 (c - off), .int .i32 (np : Int), .int .i32 ((off : Int) + 8), .nilIface]) (by simp [results, Tryd.results22, go_sem]) rfl ⟨rfl, rfl⟩

theorem zz_any (g n c off np : Nat) (x y : Int) (w : World) (h2 : off + 8 ≤ n) (h3 : n ≤ c) (hn : n ≤ 100000)
    (hx : 0 ≤ x ∧ x ≤ 255) (hy : 0 ≤ y ∧ y ≤ 255) (hxy : x * 256 + y = (np : Int)) (hnp : np ≤ 1000) (h0 : w.cell? ⟨g, off, none⟩ = some (.int .u8 x)) (h1 : w.cell? ⟨g, off + 1, none⟩ = some (.int .u8 y)) :
    Calls Tryd.prog 16 #[.slice (some ⟨g, 0, none⟩) n c, .int .i64 (off : Int), .int .i64 (8 + 6 * (np : Int)), .int .u16 (8 + 6 * (np : Int))] w
      fun e w' => e = .returned (.tuple #[.int .i32 (np : Int), .int .i32 ((off : Int) + 8), .nilIface]) ∧ Below w.heap.size w w' := by
  have HK := Lib.hid (fun (w1 : World) (hc : w1.cell? ⟨w.heap.size, 0, none⟩ = some (.slice (some ⟨g, 0, none⟩) n c)) (k0 : w1.cell? ⟨g, off, none⟩ = some (.int .u8 x)) (k1 : w1.cell? ⟨g, off + 1, none⟩ = some (.int .u8 y)) => kern0_any w.heap.size g n c off np x y w1 hc h2 h3 hn hx hy hxy hnp k0 k1)
  have H0 := Lib.hid h0
  have H1 := Lib.hid h1
  clear h0 h1 hxy
  have w1 : IntKind.u32.wrap (n : Int) = n := IntWalk.u32_in _ (by omega)
  go_enter Tryd.func16, Tryd.ntmps16
  go_wp2_with fail
  refine (HK.out _ (by simp) (keep_new H0.out) (keep_new H1.out)).mono ?_
  rintro e w2 ⟨rfl, rfl⟩
  go_wp2
  exact bodyPost_ret (v := .tuple #[.int .i32 (np : Int), .int .i32 ((off : Int) + 8), .nilIface]) (by simp [results, Tryd.results16, go_sem]) rfl ⟨rfl, (bel_made w _ _).drew⟩

theorem impl_any (g n c off np : Nat) (bs : List Int) (x y : Int) (w : World) (hl : n = bs.length) (hA : At w g 0 (vals .u8 bs)) (h2 : off + 8 ≤ n) (hn : n ≤ 100000)
    (hx : 0 ≤ x ∧ x ≤ 255) (hy : 0 ≤ y ∧ y ≤ 255) (hxy : x * 256 + y = (np : Int)) (hnp : np ≤ 1000) (h0 : bs[off]? = some x) (h1 : bs[off + 1]? = some y) :
    Calls Tryd.prog 9 #[.slice (some ⟨g, 0, none⟩) n c, .int .i64 (off : Int), .int .i64 (8 + 6 * (np : Int)), .int .u16 (8 + 6 * (np : Int))] w
      fun e w' => e = .returned (.tuple #[.int .i64 (np : Int), .int .i64 ((off : Int) + 8), .bool true]) ∧ Below w.heap.size w w' := by
  have hcl := clone_any g 0 c bs w hA (by omega)
  rw [← hl] at hcl
  have HC := Lib.hid hcl
  have HL := Lib.hid hl
  have HXY := Lib.hid hxy
  have H0 := Lib.hid h0
  have H1 := Lib.hid h1
  have w1 : IntKind.i64.wrap (np : Int) = np := IntWalk.i64_in _ (by omega)
  have w2 : IntKind.i64.wrap ((off : Int) + 8) = (off : Int) + 8 := IntWalk.i64_in _ (by omega)
  clear hcl hl hxy h0 h1 hA
  go_enter Tryd.func9, Tryd.ntmps9
  go_wp2_with fail
  refine HC.out.mono ?_
  intro e w1 hm
  obtain ⟨g1, cap, rfl, hA1, hcap, hg1, hg2, hb1⟩ := made_open hm
  rw [← HL.out] at hcap ⊢
  have k0 : w1.cell? ⟨g1, off, none⟩ = some (.int .u8 x) := by
    have := hA1 off (.int .u8 x) (by rw [vals_at, H0.out]; rfl)
    rwa [Nat.zero_add] at this
  have k1 : w1.cell? ⟨g1, off + 1, none⟩ = some (.int .u8 y) := by
    have := hA1 (off + 1) (.int .u8 y) (by rw [vals_at, H1.out]; rfl)
    rwa [Nat.zero_add] at this
  have HZ := Lib.hid (zz_any g1 n cap off np x y w1 h2 hcap hn hx hy HXY.out hnp k0 k1)
  have HB1 := Lib.hid hb1
  clear hA1 hm k0 k1 hb1
  go_wp2_with (go_at_call 16; refine HZ.out.mono ?_; rintro e w2 ⟨rfl, hb2⟩)
  go_region_held3 (fun _ => True) (trivial) (fail)
  go_wp2
  exact bodyPost_ret (v := .tuple #[.int .i64 (np : Int), .int .i64 ((off : Int) + 8), .bool true]) (by simp [results, Tryd.results9, go_sem]) rfl ⟨rfl, by
    repeat (first | with_reducible exact Below.refl _ _ | with_reducible apply Below.drew | exact HB1.out.trans (hb2.mono HB1.out.size))⟩
end Go.Proofs.YtofidkkihkgagaaDoor.KernB
