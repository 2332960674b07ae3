/- Contracts of the package's reading of numbers of two and four bytes, and of the copy of a slice of bytes. -/
import Derived.Test.YthcdolgmifkfdaaDoorSpecB
import Derived.WalkSpells
import Derived.Outline
namespace Go.Proofs.YthcdolgmifkfdaaDoor.SfntB
open Go.ChangeShapes Go.WideShapes Go.ChangeAt Go.RowKit
open Lst SpecB

theorem or8_u16 (x y : Int) (hx : 0 ≤ x ∧ x ≤ 255) (hy : 0 ≤ y ∧ y ≤ 255) : bits .or .u16 (x * 256) y = x * 256 + y := by
  have e8 : (2 : Int) ^ 8 = 256 := by decide
  have e16 : (2 : Int) ^ 16 = 65536 := by decide
  refine bits_join .u16 16 (by decide) (fun n a b => ?_) 8 (x * 256) y (by omega) (by rw [e8]; omega) (by rw [e16]; omega) hy.1 (by rw [e8]; omega) (by rw [e16]; omega)
  rw [e16] at b
  exact IntWalk.u16_in _ (by omega)

theorem u16_any (b off n c : Nat) (x y : Int) (w : World) (hn : 2 ≤ n) (hx : 0 ≤ x ∧ x ≤ 255) (hy : 0 ≤ y ∧ y ≤ 255) (h0 : w.cell? ⟨b, off, none⟩ = some (.int .u8 x)) (h1 : w.cell? ⟨b, off + 1, none⟩ = some (.int .u8 y)) :
    Calls Tryd.prog 27 #[.slice (some ⟨b, off, none⟩) n c] w fun e w' => e = .returned (.int .u16 (x * 256 + y)) ∧ w.drew = w' := by
  have k0 : 0 < n := by omega
  have k1 : (1 : Int) < (n : Int) := by omega
  have e1 : IntKind.u16.wrap (x * 256) = x * 256 := IntWalk.u16_in _ (by omega)
  have e2 : IntKind.u16.wrap x = x := IntWalk.u16_in _ (by omega)
  have e3 : IntKind.u16.wrap y = y := IntWalk.u16_in _ (by omega)
  have e4 := or8_u16 x y hx hy
  go_enter Tryd.func27, Tryd.ntmps27
  go_wp2
  go_region_held3 (fun w' => w'.cell? ⟨b, off, none⟩ = some (.int .u8 x) ∧ w'.cell? ⟨b, off + 1, none⟩ = some (.int .u8 y))
    (exact ⟨h0, h1⟩) (fail)
  go_wp2
  go_ret
  exact ⟨rfl, rfl⟩
set_option maxHeartbeats 1000000 in

/-- slices.Clone of a slice of bytes that is not nil -/
theorem clone_any (b off c : Nat) (l : List Int) (w : World) (hA : At w b off (vals .u8 l)) (hsz : l.length ≤ 140737488355328) :
    Calls Tryd.prog 14 #[.slice (some ⟨b, off, none⟩) l.length c] w (Made w.heap.size l w) := by
  obtain ⟨i0, hi0, hz0, hz1, hz2⟩ := info_parts u8info
  have HA := Lib.hid hA
  clear hA
  obtain ⟨n, hn⟩ : ∃ n, n = l.length := ⟨_, rfl⟩
  rw [← hn] at hsz ⊢
  have HN := Lib.hid hn
  clear hn
  have q := fun (w : World) (a : Option Addr) (n c n' c' : Nat) => Lib.run_eql_slice_nil (P := Tryd.prog) w 25 5 a n c n' c' Tryd.underlying25
  go_enter Tryd.func14, Tryd.ntmps14
  go_wp2_with (at_builtin; refine wpList_append_own _ rfl _ _ 25 rfl w.heap.size 5 i0 (.int .u8 0) 1 1 Tryd.underlying25 hi0 hz0 hz1 hz2 rfl (by decide) _ _ _ rfl (made_row w _) ⟨b, off, none⟩ n c (vals .u8 l) rfl ?c1 ?c2 ?c3 ?c4 ?c5 ?c6 ?_)
  case c1 => rw [vals_len, ← HN.out]; omega
  case c2 =>
    intro j u hj
    rw [Addr.add_lit]
    exact keep_new (HA.out j u hj)
  case c3 => exact vals_one _ _
  case c4 => rw [Nat.zero_add]; unfold maxLen; omega
  case c5 => rw [Nat.zero_add]; omega
  case c6 => simp
  intro v' w1 hown hgrow hnil
  have hb1 : Below w.heap.size w w1 := (bel_made w _ _).grown hgrow (by simp) (fun g hg => by simp [Value.ownBlock] at hg; omega)
  have ho : w1.ownsRow w.heap.size 5 1 v' l.length (vals .u8 l) := by
    rw [← HN.out]
    simpa using hown
  have HO := Lib.hid ho
  have HB := Lib.hid hb1
  have HNI := Lib.hid hnil
  clear hown hgrow hnil ho hb1
  go_wp2
  go_ret
  exact ⟨_, rfl, HO.out, fun h => by first | exact HNI.out h | simpa [h] using HNI.out, HB.out⟩
end Go.Proofs.YthcdolgmifkfdaaDoor.SfntB
