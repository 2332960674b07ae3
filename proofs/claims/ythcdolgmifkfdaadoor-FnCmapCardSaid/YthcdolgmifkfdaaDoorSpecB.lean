/- Contracts of the reference's numbers of two and of four bytes, the highest first. -/
import Derived.Test.YthcdolgmifkfdaaDoorNums
import Derived.Test.YthcdolgmifkfdaaDoorLst
import Derived.Test.YthcdolgmifkfdaaDoorRows
import Derived.WalkKit
import Derived.ProofKit
import Derived.OpenShut
import Derived.Lib.Hide
import Derived.Deep.RegionHeld3
namespace Go.Proofs.YthcdolgmifkfdaaDoor.SpecB
open Go.ChangeShapes Go.WideShapes Go.ChangeAt Go.RowKit
open Lst

/-- a number's two bytes -/
def hi (v : Int) : Int := v / 256 % 256
def lo (v : Int) : Int := v % 256
def words (l : List Int) : List Int := l.flatMap fun v => [hi v, lo v]
theorem words_snoc (l : List Int) (x : Int) : words (l ++ [x]) = words l ++ [hi x, lo x] := by simp [words]
theorem words_len (l : List Int) : (words l).length = 2 * l.length := by
  induction l with
  | nil => rfl
  | cons x l ih =>
    have : words (x :: l) = [hi x, lo x] ++ words l := by simp [words]
    rw [this, List.length_append, ih]
    simp
    omega
theorem take_snoc (l : List Int) (k : Nat) (h : k < l.length) : l.take (k + 1) = l.take k ++ [l.getD k 0] := by
  rw [List.take_succ_eq_append_getElem h, List.getD_eq_getElem?_getD, List.getElem?_eq_getElem h]
  rfl

theorem u8info : (Tryd.prog.info? 5).map (fun i => (i.zero, i.size, i.bytes)) = some (some (.int .u8 0), 1, 1) := by kernel_rfl

theorem two_at (v : Int) (w : World) :
    Calls Tryd.prog 18 #[.int .i64 v] w fun e w' => e = .returned (.slice (some ⟨w.heap.size, 0, none⟩) 2 2) ∧ w.alloc (.cells #[.int .u8 (hi v), .int .u8 (lo v)] 5) = w' := by
  go_enter Tryd.func18, Tryd.ntmps18
  go_wp2
  go_ret
  exact ⟨rfl, rfl⟩

/-- a slice of bytes of the call's own, not nil; what was there before is as it was -/
def Made (B : Nat) (l : List Int) (w : World) (e : Ending) (w' : World) : Prop :=
  ∃ v, e = .returned v ∧ w'.ownsRow B 5 1 v l.length (vals .u8 l) ∧ v ≠ .slice none 0 0 ∧ Below B w w'

set_option maxHeartbeats 1600000 in
theorem words_any (b off c : Nat) (ls : List Int) (w : World) (hb : b < w.heap.size) (hA : At w b off (vals .i64 ls)) (hl : ∀ x ∈ ls, -9223372036854775808 ≤ x ∧ x ≤ 9223372036854775807) (hsz : ls.length ≤ 1099511627776) :
    Calls Tryd.prog 11 #[.slice (some ⟨b, off, none⟩) ls.length c] w (Made w.heap.size (words ls) w) := by
  obtain ⟨i0, hi0, hz0, hz1, hz2⟩ := info_parts u8info
  obtain ⟨n, hn⟩ : ∃ n, n = ls.length := ⟨_, rfl⟩
  rw [← hn] at hsz ⊢
  have HN := Lib.hid hn
  clear hn
  have HA := Lib.hid hA
  clear hA
  have HL := Lib.hid hl
  clear hl
  go_enter Tryd.func11, Tryd.ntmps11
  go_wp2
  go_loopw [3, 9] (fun out i wr => ∃ k : Nat, k ≤ n ∧ i = .int .i64 k ∧ wr.ownsRow w.heap.size 5 1 out (2 * k) (vals .u8 (words (ls.take k))) ∧ out ≠ .slice none 0 0 ∧ Below w.heap.size w wr) (fun _ i _ => n - (intOf i).toNat)
  case atStart => exact ⟨0, Nat.zero_le _, rfl, made_row w _, by simp, bel_made w _ _⟩
  case round =>
    obtain ⟨k, hk, rfl, hown, hnn, hbel⟩ := hrel
    by_cases hlt : k < n
    · obtain ⟨x, hx⟩ : ∃ x, x = ls.getD k 0 := ⟨_, rfl⟩
      have hcell : wr.cell? ⟨b, off + k, none⟩ = some (.int .i64 x) := by
        rw [hx]
        exact (hbel.cell (p := ⟨b, off + k, none⟩) hb).trans (HA.out.get (by rw [← HN.out]; exact hlt))
      have hxb : -9223372036854775808 ≤ x ∧ x ≤ 9223372036854775807 := by
        rw [hx, List.getD_eq_getElem?_getD, List.getElem?_eq_getElem (by rw [← HN.out]; exact hlt)]
        exact HL.out _ (List.getElem_mem _)
      have HX := Lib.hid hx
      clear hx
      have HO := Lib.hid hown
      have HB := Lib.hid hbel
      have HNN := Lib.hid hnn
      clear hown hbel hnn
      go_wp2_with fail
      refine (two_at _ _).mono ?_
      rintro e w1 ⟨rfl, rfl⟩
      go_wp2_with (at_builtin; refine wpList_append_own _ rfl _ _ 25 rfl w.heap.size 5 i0 (.int .u8 0) 1 1 Tryd.underlying25 hi0 hz0 hz1 hz2 rfl (by decide) _ _ _ rfl (HO.out.alloc _) ⟨wr.heap.size, 0, none⟩ 2 2 [.int .u8 (hi x), .int .u8 (lo x)] rfl rfl ?c1 ?c2 ?c3 ?c4 ?c5 ?_)
      case c1 =>
        intro j u hj
        match j, hj with
        | 0, hj => simp at hj; subst hj; simp [Addr.add]
        | 1, hj => simp at hj; subst hj; simp [Addr.add]
      case c2 => intro u hu; simp at hu; rcases hu with rfl | rfl <;> rfl
      case c3 => unfold maxLen; omega
      case c4 => omega
      case c5 => have := HB.out.size; simp; omega
      intro v' w1 hown' hgrow hnil
      have hb1 : Below w.heap.size w w1 := (HB.out.alloc HB.out.size _).grown hgrow (by have := HB.out.size; simp; omega) (fun g hg => own_ge HO.out hg)
      have hn1 : v' ≠ .slice none 0 0 := fun h => by first | exact hnil h | exact HNN.out (hnil.1 h).1
      have ho1 : w1.ownsRow w.heap.size 5 1 v' (2 * (k + 1)) (vals .u8 (words (ls.take (k + 1)))) := by
        rw [take_snoc ls k (by rw [← HN.out]; exact hlt), words_snoc, vals_app, ← HX.out]
        exact hown'
      have HO1 := Lib.hid ho1
      have HB1 := Lib.hid hb1
      have HN1 := Lib.hid hn1
      clear ho1 hb1 hn1 hown' hgrow hnil
      go_wp2
      go_roundw
      case rel => exact ⟨k + 1, by omega, by go_num, HO1.out, HN1.out, HB1.out⟩
      case measure => simp [intOf]; omega
    · have hkn : k = n := by omega
      have HO := Lib.hid hown
      have HB := Lib.hid hbel
      have HNN := Lib.hid hnn
      clear hown hbel hnn
      go_wp2
      go_ret
      refine ⟨_, rfl, ?_, HNN.out, HB.out⟩
      have := HO.out
      rw [List.take_of_length_le (by rw [← HN.out]; omega)] at this
      rw [words_len, ← HN.out, ← hkn]
      exact this
end Go.Proofs.YthcdolgmifkfdaaDoor.SpecB
