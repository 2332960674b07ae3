/- Contract of the package's view of its bytes: a part of them, not copied. -/
import Derived.Test.YthcdolgmifkfdaaDoorSfntB
import Derived.Test.YthcdolgmifkfdaaDoorMem
import Derived.WalkSpells
import Derived.Outline
namespace Go.Proofs.YthcdolgmifkfdaaDoor.View
open Go.ChangeShapes Go.WideShapes Go.ChangeAt Go.RowKit
open Lst Mem SpecB

theorem view_any (fb fo g n c off len : Nat) (buf : Value) (w : World) (hc : w.cell? ⟨fb, fo, none⟩ = some (.slice (some ⟨g, 0, none⟩) n c)) (h1 : 0 < len) (h2 : off + len ≤ n) (h3 : n ≤ c) (hn : n ≤ 1099511627776) :
    Calls Tryd.prog 24 #[.pointer (some ⟨fb, fo, none⟩), buf, .int .i64 (off : Int), .int .i64 (len : Int)] w fun e w' => e = .returned (.tuple #[.slice (some ⟨g, off, none⟩) len (c - off), .nilIface]) ∧ w = w' := by
  have q := fun (w : World) (a : Addr) (n c n' c' : Nat) => run_neq_slice_nil_any (P := Tryd.prog) w 25 5 (some a) n c n' c' Tryd.underlying25
  have t1 : ¬ ((off : Int) + (len : Int) < (off : Int)) := by omega
  have t2 : ¬ ((n : Int) < (off : Int) + (len : Int)) := by omega
  have t3 : c ≠ off := by omega
  have t4 : (off : Int) + (len : Int) - off = len := by omega
  go_enter Tryd.func24, Tryd.ntmps24
  go_wp2
  go_ret2
  exact ⟨rfl, rfl⟩
/-- a slice of the call's own, laid open -/
theorem made_open {B : Nat} {l : List Int} {w w' : World} {e : Ending} (h : Made B l w e w') :
    ∃ g cap, e = .returned (.slice (some ⟨g, 0, none⟩) l.length cap) ∧ At w' g 0 (vals .u8 l) ∧ l.length ≤ cap ∧ g < w'.heap.size ∧ B ≤ g ∧ Below B w w' := by
  obtain ⟨v, rfl, ho, hn, hb⟩ := h
  have ho' := ho
  rcases ho.2 with ⟨hv, _⟩ | ⟨g, cap, cur, rfl, hg, hh, hc, _⟩
  · exact absurd hv hn
  · have hlt : g < w'.heap.size := by
      by_cases hlt : g < w'.heap.size
      · exact hlt
      · rw [Array.getElem?_eq_none (by omega)] at hh
        cases hh
    exact ⟨g, cap, rfl, At.of_own ho', hc, hlt, hg, hb⟩
end Go.Proofs.YthcdolgmifkfdaaDoor.View
