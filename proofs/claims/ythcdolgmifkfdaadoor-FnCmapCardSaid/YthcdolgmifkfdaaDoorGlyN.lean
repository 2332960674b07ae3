/- Contract of the glyph's source of numbers: the next one, and the place in the list one on. -/
import Derived.Test.YthcdolgmifkfdaaDoorGlyM
import Derived.Test.YthcdolgmifkfdaaDoorRows
import Derived.ProofKit
import Derived.Lib.Hide
import Derived.Deep.QuietTactic
import Derived.Deep.RegionHeld3
namespace Go.Proofs.YthcdolgmifkfdaaDoor.GlyN
open Go.ChangeShapes Go.WideShapes Go.ChangeAt Go.RowKit
open Lst Mem RowG GlyM

/-- the list of numbers that a glyph is made of -/
def Src (w : World) (A : Option Addr) (m : Nat) (ms : List Int) : Prop := m = ms.length ∧ m ≤ 1000 ∧ (∀ x ∈ ms, -32768 ≤ x ∧ x ≤ 32767) ∧ (0 < m → ∃ b off, A = some ⟨b, off, none⟩ ∧ b < w.heap.size ∧ At w b off (vals .i16 ms))
theorem Src.below {w w' : World} {A : Option Addr} {m : Nat} {ms : List Int} (h : Src w A m ms) (hb : Below w.heap.size w w') : Src w' A m ms := by
  obtain ⟨h1, h2, h3, h4⟩ := h
  refine ⟨h1, h2, h3, fun h0 => ?_⟩
  obtain ⟨b, off, e, hl, ha⟩ := h4 h0
  exact ⟨b, off, e, Nat.lt_of_lt_of_le hl hb.size, ha.below hb hl⟩

theorem grown_set {w : World} {b : Nat} (v : Value) : w.grownBy (w.setCell ⟨b, 0, none⟩ v) (some b) := by
  refine ⟨rfl, rfl, rfl, by simp [World.setCell], fun i _ hi => ?_⟩
  exact Below.heap_setCell _ _ _ _ (fun e => hi (by rw [e]))
theorem grown_draws {w w' : World} {r : Option Nat} (h : w.grownBy w' r) (n : Nat) : w.grownBy (w'.drewN n) r := by
  obtain ⟨a, b, c, d, e⟩ := h
  exact ⟨a, b, c, d, e⟩

/-- the next number: it is small, and the place is one on -/
def Next (ab : Nat) (t : Int) (w : World) (e : Ending) (w' : World) : Prop :=
  ∃ v, e = .returned (.int .i64 v) ∧ ((-4096 ≤ v ∧ v ≤ 4096) ∧ 8 ∣ v) ∧ Blk ab 3 [.int .i64 (t + 1)] w' ∧ w.grownBy w' (some ab)

set_option maxHeartbeats 1600000 in
theorem next_any (ab nb m cap : Nat) (A : Option Addr) (ms : List Int) (t : Int) (w w0 : World) (ht : 0 ≤ t ∧ t ≤ 100000) (hab : Blk ab 3 [.int .i64 t] w) (hnb : w.cell? ⟨nb, 0, none⟩ = some (.slice A m cap)) (hne : nb ≠ ab)
    (hs : Src w0 A m ms) (hb : Below w0.heap.size w0 w) (hlt : w0.heap.size ≤ ab) :
    Calls Tryd.prog 17 #[.pointer (some ⟨ab, 0, none⟩), .pointer (some ⟨nb, 0, none⟩)] w (Next ab t w) := by
  have c0 := hab.cell (i := 0) rfl
  have f0 := hab.frozen 0
  have hset : Blk ab 3 [.int .i64 (t + 1)] (w.setCell ⟨ab, 0, none⟩ (.int .i64 (t + 1))) := hab.set_ 0 _
  have HSET := Lib.hid hset
  have HG := Lib.hid (grown_set (w := w) (b := ab) (.int .i64 (t + 1)))
  have hnb1 : (w.setCell ⟨ab, 0, none⟩ (.int .i64 (t + 1))).cell? ⟨nb, 0, none⟩ = some (.slice A m cap) := by
    rw [World.cell?_setCell_far _ _ _ _ (by exact fun e => hne e.symm)]
    exact hnb
  have hc1 : (w.setCell ⟨ab, 0, none⟩ (.int .i64 (t + 1))).cell? ⟨ab, 0, none⟩ = some (.int .i64 (t + 1)) := hset.cell rfl
  by_cases h0 : m = 0
  · subst h0
    obtain ⟨Z, hZ⟩ : ∃ Z, Z = ((t + 1) * 7919).tmod 251 := ⟨_, rfl⟩
    have hZ1 : 0 ≤ Z ∧ Z ≤ 250 := by
      have h1 := Int.tmod_nonneg (a := (t + 1) * 7919) 251 (by omega)
      have h2 := Int.tmod_lt_of_pos ((t + 1) * 7919) (b := 251) (by omega)
      omega
    have w2 : IntKind.i64.wrap ((t + 1) * 7919) = (t + 1) * 7919 := IntWalk.i64_in _ (by omega)
    have w3 : IntKind.i64.wrap (Z * 8) = Z * 8 := IntWalk.i64_in _ (by omega)
    have hZ' := hZ.symm
    clear hs hb hlt hset hZ
    go_enter Tryd.func17, Tryd.ntmps17
    go_wp2
    go_ret
    exact ⟨_, rfl, by omega, HSET.out, HG.out⟩
  · obtain ⟨hm, hm2, hml, hsrc⟩ := hs
    obtain ⟨sb, off, rfl, hsl, hA⟩ := hsrc (by omega)
    obtain ⟨T, hT⟩ : ∃ T : Nat, t = (T : Int) := ⟨t.toNat, by omega⟩
    subst hT
    obtain ⟨r, hr⟩ : ∃ r, r = (T + 1) % m := ⟨_, rfl⟩
    have g1 : r < m := by rw [hr]; exact Nat.mod_lt _ (by omega)
    have f1 : ((T : Int) + 1).tmod (m : Int) = (r : Int) := by rw [hr]; exact Int.ofNat_tmod (T + 1) m
    have d1 := ((hb.cell (p := ⟨sb, off + r, none⟩) hsl).trans (hA.get (j := r) (by rw [← hm]; exact g1)))
    have hgm := getD_mem ms r 0 (by rw [← hm]; exact g1)
    obtain ⟨x, hx⟩ : ∃ x, x = ms.getD r 0 := ⟨_, rfl⟩
    rw [← hx] at d1 hgm
    have hxb := hml x hgm
    have d2 : (w.setCell ⟨ab, 0, none⟩ (.int .i64 ((T : Int) + 1))).cell? ⟨sb, off + r, none⟩ = some (.int .i16 x) := by
      rw [World.cell?_setCell_far _ _ _ _ (by simp; omega)]
      exact d1
    have hq := Nums.tdiv_lit x 64 32768 512 (by omega) (by omega) (by omega)
    obtain ⟨y, hy⟩ : ∃ y, y = x.tdiv 64 := ⟨_, rfl⟩
    rw [← hy] at hq
    have hy' := hy.symm
    have w2 : IntKind.i64.wrap x = x := IntWalk.i64_in _ (by omega)
    have w3 : IntKind.i64.wrap y = y := IntWalk.i64_in _ (by omega)
    have w4 : IntKind.i64.wrap (y * 8) = y * 8 := IntWalk.i64_in _ (by omega)
    have w5 : IntKind.i64.wrap (r : Int) = (r : Int) := IntWalk.i64_in _ (by omega)
    have hm1 : ¬ (m = 0) := h0
    have hm3 : ((m : Int) == 0) = false := by simp; omega
    clear hb hsl hA hm hml hsrc hgm hx hr hy hset hlt d1
    go_enter Tryd.func17, Tryd.ntmps17
    go_wp2
    go_quiet (fail)
    go_wp2
    go_ret
    exact ⟨_, rfl, by omega, HSET.out, grown_draws HG.out _⟩
end Go.Proofs.YthcdolgmifkfdaaDoor.GlyN
