/- Contract of a font's source of numbers: the k-th, round and round. -/
import Derived.Test.YthcdolgmifkfdaaDoorGlyN
import Derived.BigQuiet
namespace Go.Proofs.YthcdolgmifkfdaaDoor.MadN
open Go.ChangeShapes Go.WideShapes Go.ChangeAt Go.RowKit
open Lst Mem RowG GlyM GlyN

/-- a small number; the memory is as it was -/
def Num (w : World) (e : Ending) (w' : World) : Prop := ∃ v, e = .returned (.int .i64 v) ∧ (-4000000 ≤ v ∧ v ≤ 4000000) ∧ ∃ n, w.drewN n = w'

set_option maxHeartbeats 1600000 in
theorem number_any (nb m cap : Nat) (k : Int) (A : Option Addr) (ms : List Int) (w w0 : World) (hk : 0 ≤ k ∧ k ≤ 100000) (hnb : w.cell? ⟨nb, 0, none⟩ = some (.slice A m cap)) (hs : Src w0 A m ms) (hb : Below w0.heap.size w0 w) :
    Calls Tryd.prog 9 #[.int .i64 k, .pointer (some ⟨nb, 0, none⟩)] w (Num w) := by
  obtain ⟨k, rfl⟩ := Int.eq_ofNat_of_zero_le hk.1
  by_cases h0 : m = 0
  · subst h0
    clear hs hb
    go_enter Tryd.func9, Tryd.ntmps9
    go_wp2
    go_ret
    exact ⟨_, rfl, by omega, 0, rfl⟩
  · obtain ⟨hm, hm2, hml, hsrc⟩ := hs
    obtain ⟨sb, off, rfl, hsl, hA⟩ := hsrc (by omega)
    obtain ⟨r, hr⟩ : ∃ r, r = k % m := ⟨_, rfl⟩
    have g1 : r < m := by rw [hr]; exact Nat.mod_lt _ (by omega)
    have f1 : (k : Int).tmod (m : Int) = (r : Int) := by rw [hr]; exact Int.ofNat_tmod k m
    have d1 := ((hb.cell (p := ⟨sb, off + r, none⟩) hsl).trans (hA.get (j := r) (by rw [← hm]; exact g1)))
    have hgm := getD_mem ms r 0 (by rw [← hm]; exact g1)
    obtain ⟨x, hx⟩ : ∃ x, x = ms.getD r 0 := ⟨_, rfl⟩
    rw [← hx] at d1 hgm
    have hxb := hml x hgm
    have w2 : IntKind.i64.wrap x = x := IntWalk.i64_in _ (by omega)
    have w5 : IntKind.i64.wrap (r : Int) = (r : Int) := IntWalk.i64_in _ (by omega)
    have hm1 : ¬ (m = 0) := h0
    have hm3 : ((m : Int) == 0) = false := by simp; omega
    clear hb hsl hA hm hml hsrc hgm hx hr
    go_enter Tryd.func9, Tryd.ntmps9
    go_wp2
    go_quiet (fail)
    go_wp2
    go_ret
    exact ⟨_, rfl, by omega, _, rfl⟩
end Go.Proofs.YthcdolgmifkfdaaDoor.MadN
