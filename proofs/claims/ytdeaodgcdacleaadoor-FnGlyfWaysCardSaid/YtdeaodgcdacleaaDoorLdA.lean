/- Contracts of the package's view of a glyph's data. -/
import Derived.Test.YtdeaodgcdacleaaDoorView
import Derived.Test.YtdeaodgcdacleaaDoorRowG
import Derived.Lib.Hide
import Derived.Lib.SliceRun
namespace Go.Proofs.YtdeaodgcdacleaaDoor.LdA
open Go.ChangeShapes Go.WideShapes Go.ChangeAt Go.RowKit
open Lst Mem RowG SpecB View
set_option linter.unusedSimpArgs false
set_option linter.unusedVariables false
theorem num_any (fb lb N lc : Nat) (w : World) (h : w.cell? ⟨fb, 34, none⟩ = some (.slice (some ⟨lb, 0, none⟩) (N + 1) lc)) (hN : N ≤ 1000) :
    Calls Tryd.prog 35 #[.pointer (some ⟨fb, 0, none⟩)] w fun e w' => e = .returned (.int .i64 (N : Int)) ∧ w = w' := by
  have e1 : IntKind.i64.wrap ((N : Int) + 1 - 1) = (N : Int) := by rw [IntWalk.i64_in _ (by omega)]; omega
  go_enter Tryd.func35, Tryd.ntmps35
  go_wp2
  go_ret
  exact ⟨rfl, rfl⟩
/-- a view of no bytes -/
theorem view_zero (fb fo g n c off : Nat) (buf : Value) (w : World) (hc : w.cell? ⟨fb, fo, none⟩ = some (.slice (some ⟨g, 0, none⟩) n c)) (h2 : off ≤ n) (h3 : n ≤ c) (hn : n ≤ 1099511627776) :
    Calls Tryd.prog 42 #[.pointer (some ⟨fb, fo, none⟩), buf, .int .i64 (off : Int), .int .i64 ((0 : Nat) : Int)] w fun e w' => e = .returned (.tuple #[.slice (some ⟨g, if c = off then 0 else off, none⟩) 0 (c - off), .nilIface]) ∧ w = w' := by
  have q := fun (w : World) (a : Addr) (n c n' c' : Nat) => run_neq_slice_nil_any (P := Tryd.prog) w 38 5 (some a) n c n' c' Tryd.underlying38
  have t2 : ¬ ((n : Int) < (off : Int)) := by omega
  have t5 : off ≤ c := by omega
  have t6 : (off : Int) ≤ (c : Int) := by omega
  by_cases hco : c = off
  · rw [if_pos hco]
    subst hco
    go_enter Tryd.func42, Tryd.ntmps42
    go_wp2
    go_ret2
    exact ⟨rfl, rfl⟩
  · rw [if_neg hco]
    go_enter Tryd.func42, Tryd.ntmps42
    go_wp2
    go_ret2
    exact ⟨rfl, rfl⟩
theorem writable_any (fb g n c : Nat) (w : World) (hc : w.cell? ⟨fb, 0, none⟩ = some (.slice (some ⟨g, 0, none⟩) n c)) :
    Calls Tryd.prog 43 #[.pointer (some ⟨fb, 0, none⟩)] w fun e w' => e = .returned (.bool false) ∧ w = w' := by
  have q := fun (w : World) (a : Addr) (n c n2 c2 : Nat) => Lib.run_eql_slice_nil (P := Tryd.prog) w 38 5 (some a) n c n2 c2 Tryd.underlying38
  go_enter Tryd.func43, Tryd.ntmps43
  go_wp2
  go_ret
  exact ⟨rfl, rfl⟩
/-- where a view of len bytes begins -/
def vat (off len c : Nat) : Nat := if len = 0 ∧ c = off then 0 else off
theorem bview_any (fb bb g n c off len : Nat) (buf : Value) (w : World) (hb : w.cell? ⟨bb, 0, none⟩ = some buf) (hc : w.cell? ⟨fb, 0, none⟩ = some (.slice (some ⟨g, 0, none⟩) n c)) (h2 : off + len ≤ n) (h3 : n ≤ c) (hn : n ≤ 1099511627776) :
    Calls Tryd.prog 36 #[.pointer (some ⟨bb, 0, none⟩), .pointer (some ⟨fb, 0, none⟩), .int .i64 (off : Int), .int .i64 (len : Int)] w fun e w' => e = .returned (.tuple #[.slice (some ⟨g, vat off len c, none⟩) len (c - off), .nilIface]) ∧ w = w' := by
  have hv : Calls Tryd.prog 42 #[.pointer (some ⟨fb, 0, none⟩), buf, .int .i64 (off : Int), .int .i64 (len : Int)] w fun e w' => e = .returned (.tuple #[.slice (some ⟨g, vat off len c, none⟩) len (c - off), .nilIface]) ∧ w = w' := by
    by_cases h0 : len = 0
    · subst h0
      have := view_zero fb 0 g n c off buf w hc (by omega) h3 hn
      have e : vat off 0 c = if c = off then 0 else off := by simp [vat]
      rw [e]
      exact this
    · have e : vat off len c = off := by simp [vat, h0]
      rw [e]
      exact view_any fb 0 g n c off len buf w hc (by omega) h2 h3 hn
  have HV := Lib.hid hv
  have HW := Lib.hid (writable_any fb g n c w hc)
  clear hv
  obtain ⟨va, hva⟩ : ∃ a, a = vat off len c := ⟨_, rfl⟩
  rw [← hva] at HV ⊢
  clear hva
  go_enter Tryd.func36, Tryd.ntmps36
  go_wp2_with fail
  refine HV.out.mono ?_
  rintro e w1 ⟨rfl, rfl⟩
  go_wp2_with fail
  refine HW.out.mono ?_
  rintro e w1 ⟨rfl, rfl⟩
  go_wp2_with fail
  go_ret2
  exact ⟨rfl, rfl⟩
/-- a font of nothing but its bytes and the places of its glyphs -/
structure Fnt (fb g n c lb lc N : Nat) (locs bs : List Int) (w : World) : Prop where
  src : w.cell? ⟨fb, 0, none⟩ = some (.slice (some ⟨g, 0, none⟩) n c)
  loc : w.cell? ⟨fb, 34, none⟩ = some (.slice (some ⟨lb, 0, none⟩) (N + 1) lc)
  locs : At w lb 0 (vals .u32 locs)
  byts : At w g 0 (vals .u8 bs)
theorem Fnt.below {fb g n c lb lc N B : Nat} {locs bs : List Int} {w w' : World} (h : Fnt fb g n c lb lc N locs bs w) (hb : Below B w w') (h1 : fb < B) (h2 : g < B) (h3 : lb < B) : Fnt fb g n c lb lc N locs bs w' :=
  ⟨(hb.cell (p := ⟨fb, 0, none⟩) h1).trans h.src, (hb.cell (p := ⟨fb, 34, none⟩) h1).trans h.loc, fun j u hu => (hb.cell (p := ⟨lb, 0 + j, none⟩) h3).trans (h.locs j u hu), fun j u hu => (hb.cell (p := ⟨g, 0 + j, none⟩) h2).trans (h.byts j u hu)⟩
/-- the places of a list of bytes' pieces -/
def Locs (locs : List Int) (N n : Nat) : Prop := locs.length = N + 1 ∧ (∀ i, i ≤ N → 0 ≤ locs.getD i 0 ∧ locs.getD i 0 ≤ (n : Int)) ∧ ∀ i, i < N → locs.getD i 0 ≤ locs.getD (i + 1) 0
set_option maxHeartbeats 1600000 in
theorem viewg_any (fb bb g n c lb lc N x off len : Nat) (locs bs : List Int) (buf : Value) (w : World) (hF : Fnt fb g n c lb lc N locs bs w) (hb : w.cell? ⟨bb, 0, none⟩ = some buf) (hN : N ≤ 1000) (hl : locs.length = N + 1) (hx : x < N) (h0 : locs.getD x 0 = (off : Int)) (h1 : locs.getD (x + 1) 0 = ((off + len : Nat) : Int)) (h2 : off + len ≤ n) (h3 : n ≤ c) (hn : n ≤ 60000) :
    Calls Tryd.prog 27 #[.pointer (some ⟨fb, 0, none⟩), .pointer (some ⟨bb, 0, none⟩), .int .u16 (x : Int)] w fun e w' => e = .returned (.tuple #[.slice (some ⟨g, vat off len c, none⟩) len (c - off), .int .u32 (off : Int), .int .u32 (len : Int), .nilIface]) ∧ w = w' := by
  have HV := Lib.hid (bview_any fb bb g n c off len buf w hb hF.src h2 h3 (by omega))
  have HNm := Lib.hid (num_any fb lb N lc w hF.loc hN)
  have a0 : w.cell? ⟨lb, x, none⟩ = some (.int .u32 (off : Int)) := by
    have := hF.locs x (.int .u32 (off : Int)) (by rw [vals_at, List.getElem?_eq_getElem (by omega), ← h0, List.getD_eq_getElem?_getD, List.getElem?_eq_getElem (by omega)]; rfl)
    rwa [Nat.zero_add] at this
  have a1 : w.cell? ⟨lb, x + 1, none⟩ = some (.int .u32 ((off : Int) + (len : Int))) := by
    have := hF.locs (x + 1) (.int .u32 ((off : Int) + (len : Int))) (by rw [vals_at, List.getElem?_eq_getElem (by omega), show (off : Int) + (len : Int) = ((off + len : Nat) : Int) by omega, ← h1, List.getD_eq_getElem?_getD, List.getElem?_eq_getElem (by omega)]; rfl)
    rwa [Nat.zero_add] at this
  have c34 := hF.loc
  obtain ⟨va, hva⟩ : ∃ a, a = vat off len c := ⟨_, rfl⟩
  rw [← hva] at HV ⊢
  clear hva hF h0 h1 hl
  have t1 : ¬ ((N : Int) ≤ (x : Int)) := by omega
  have t2 : IntKind.i64.wrap (x : Int) = (x : Int) := IntWalk.i64_in _ (by omega)
  have t3 : IntKind.i64.wrap ((x : Int) + 1) = (x : Int) + 1 := IntWalk.i64_in _ (by omega)
  have t4 : (0 : Int) ≤ (x : Int) + 1 ∧ (x : Int) + 1 < (N : Int) + 1 := by omega
  have t5 : x < N + 1 := by omega
  have t6 : ¬ ((off : Int) + (len : Int) < (off : Int)) := by omega
  have t7 : IntKind.u32.wrap ((off : Int) + (len : Int) - (off : Int)) = (len : Int) := by rw [IntWalk.u32_in _ (by omega)]; omega
  have t8 : (off : Int) + (len : Int) - (off : Int) = (len : Int) := by omega
  have t9 : ¬ ((65536 : Int) < (len : Int)) := by omega
  go_enter Tryd.func27, Tryd.ntmps27
  go_wp2_with fail
  refine HNm.out.mono ?_
  rintro e w1 ⟨rfl, rfl⟩
  go_wp2_with fail
  refine HV.out.mono ?_
  rintro e w1 ⟨rfl, rfl⟩
  go_wp2_with fail
  exact bodyPost_ret (v := .tuple #[.slice (some ⟨g, va, none⟩) len (c - off), .int .u32 (off : Int), .int .u32 (len : Int), .nilIface]) (by simp [results, Tryd.results27, go_sem]) rfl ⟨rfl, rfl⟩
end Go.Proofs.YtdeaodgcdacleaaDoor.LdA
