/- Contracts of the package's view of bytes, of any length. -/
import Derived.Test.YthcdolgmifkfdaaDoorView
import Derived.Test.YthcdolgmifkfdaaDoorRowG
import Derived.Lib.Hide
import Derived.Lib.SliceRun
namespace Go.Proofs.YthcdolgmifkfdaaDoor.VewZ
open Go.ChangeShapes Go.WideShapes Go.ChangeAt Go.RowKit
open Lst Mem RowG SpecB View
set_option linter.unusedSimpArgs false
set_option linter.unusedVariables false
/-- a view of no bytes -/
theorem view_zero (fb fo g n c off : Nat) (buf : Value) (w : World) (hc : w.cell? ⟨fb, fo, none⟩ = some (.slice (some ⟨g, 0, none⟩) n c)) (h2 : off ≤ n) (h3 : n ≤ c) (hn : n ≤ 1099511627776) :
    Calls Tryd.prog 24 #[.pointer (some ⟨fb, fo, none⟩), buf, .int .i64 (off : Int), .int .i64 ((0 : Nat) : Int)] w fun e w' => e = .returned (.tuple #[.slice (some ⟨g, if c = off then 0 else off, none⟩) 0 (c - off), .nilIface]) ∧ w = w' := by
  have q := fun (w : World) (a : Addr) (n c n' c' : Nat) => run_neq_slice_nil_any (P := Tryd.prog) w 25 5 (some a) n c n' c' Tryd.underlying25
  have t2 : ¬ ((n : Int) < (off : Int)) := by omega
  have t5 : off ≤ c := by omega
  have t6 : (off : Int) ≤ (c : Int) := by omega
  by_cases hco : c = off
  · rw [if_pos hco]
    subst hco
    go_enter Tryd.func24, Tryd.ntmps24
    go_wp2
    go_ret2
    exact ⟨rfl, rfl⟩
  · rw [if_neg hco]
    go_enter Tryd.func24, Tryd.ntmps24
    go_wp2
    go_ret2
    exact ⟨rfl, rfl⟩
theorem writable_any (fb g n c : Nat) (w : World) (hc : w.cell? ⟨fb, 0, none⟩ = some (.slice (some ⟨g, 0, none⟩) n c)) :
    Calls Tryd.prog 33 #[.pointer (some ⟨fb, 0, none⟩)] w fun e w' => e = .returned (.bool false) ∧ w = w' := by
  have q := fun (w : World) (a : Addr) (n c n2 c2 : Nat) => Lib.run_eql_slice_nil (P := Tryd.prog) w 25 5 (some a) n c n2 c2 Tryd.underlying25
  go_enter Tryd.func33, Tryd.ntmps33
  go_wp2
  go_ret
  exact ⟨rfl, rfl⟩
/-- where a view of len bytes begins -/
def vat (off len c : Nat) : Nat := if len = 0 ∧ c = off then 0 else off
theorem view_all (fb g n c off len : Nat) (buf : Value) (w : World) (hc : w.cell? ⟨fb, 0, none⟩ = some (.slice (some ⟨g, 0, none⟩) n c)) (h2 : off + len ≤ n) (h3 : n ≤ c) (hn : n ≤ 1099511627776) :
    Calls Tryd.prog 24 #[.pointer (some ⟨fb, 0, none⟩), buf, .int .i64 (off : Int), .int .i64 (len : Int)] w fun e w' => e = .returned (.tuple #[.slice (some ⟨g, vat off len c, none⟩) len (c - off), .nilIface]) ∧ w = w' := by
  by_cases h0 : len = 0
  · subst h0
    have := view_zero fb 0 g n c off buf w hc (by omega) h3 hn
    have e : vat off 0 c = if c = off then 0 else off := by simp [vat]
    rw [e]
    exact this
  · have e : vat off len c = off := by simp [vat, h0]
    rw [e]
    exact view_any fb 0 g n c off len buf w hc (by omega) h2 h3 hn
theorem bview_any (fb bb g n c off len : Nat) (buf : Value) (w : World) (hb : w.cell? ⟨bb, 0, none⟩ = some buf) (hc : w.cell? ⟨fb, 0, none⟩ = some (.slice (some ⟨g, 0, none⟩) n c)) (h2 : off + len ≤ n) (h3 : n ≤ c) (hn : n ≤ 1099511627776) :
    Calls Tryd.prog 29 #[.pointer (some ⟨bb, 0, none⟩), .pointer (some ⟨fb, 0, none⟩), .int .i64 (off : Int), .int .i64 (len : Int)] w fun e w' => e = .returned (.tuple #[.slice (some ⟨g, vat off len c, none⟩) len (c - off), .nilIface]) ∧ w = w' := by
  have hv : Calls Tryd.prog 24 #[.pointer (some ⟨fb, 0, none⟩), buf, .int .i64 (off : Int), .int .i64 (len : Int)] w fun e w' => e = .returned (.tuple #[.slice (some ⟨g, vat off len c, none⟩) len (c - off), .nilIface]) ∧ w = w' := by
    by_cases h0 : len = 0
    · subst h0
      have := view_zero fb 0 g n c off buf w hc (by omega) h3 hn
      have e : vat off 0 c = if c = off then 0 else off := by simp [vat]
      rw [e]
      exact this
    · have e : vat off len c = off := by simp [vat, h0]
      rw [e]
      exact view_any fb 0 g n c off len buf w hc (by omega) h2 h3 hn
  have HV := Lib.hid hv
  have HW := Lib.hid (writable_any fb g n c w hc)
  clear hv
  obtain ⟨va, hva⟩ : ∃ a, a = vat off len c := ⟨_, rfl⟩
  rw [← hva] at HV ⊢
  clear hva
  go_enter Tryd.func29, Tryd.ntmps29
  go_wp2_with fail
  refine HV.out.mono ?_
  rintro e w1 ⟨rfl, rfl⟩
  go_wp2_with fail
  refine HW.out.mono ?_
  rintro e w1 ⟨rfl, rfl⟩
  go_wp2_with fail
  go_ret2
  exact ⟨rfl, rfl⟩
end Go.Proofs.YthcdolgmifkfdaaDoor.VewZ
