/- Contract of the thin package's reading of a glyph's flags. -/
import Derived.Test.YtdeaodgcdacleaaIdxB
import Derived.Test.YtdeaodgcdacleaaSfntB
namespace Go.Proofs.Ytdeaodgcdacleaa.IdxC
open Go.ChangeShapes Go.WideShapes Go.ChangeAt Go.RowKit
open Lst Mem SpecB SfntB IdxB

set_option maxHeartbeats 800000 in
theorem impl_any (g n c p N q X Y : Nat) (bs : List Int) (w : World) (hN : N = bs.length) (hA : At w g 0 (vals .u8 bs)) (hb : ∀ x ∈ bs, 0 ≤ x ∧ x ≤ 255) (hf : Fl bs p n q X Y) (hn : n ≤ 1000) (hN2 : N ≤ 100000) (hp : p ≤ N) (hq : q + X + Y ≤ N) :
    Calls Try.prog 8 #[.slice (some ⟨g, 0, none⟩) N c, .int .i64 p, .int .i64 n] w fun e w' => e = .returned (.tuple #[.int .i64 q, .int .i64 ((q : Int) + X), .bool true]) ∧ Below w.heap.size w w' := by
  have hcl := clone_any g 0 c bs w hA (by omega)
  rw [← hN] at hcl
  have HC := Lib.hid hcl
  have HN := Lib.hid hN
  have HB := Lib.hid hb
  have HF := Lib.hid hf
  have hw1 : IntKind.i64.wrap (q : Int) = q := IntWalk.i64_in _ (by omega)
  have hw2 : IntKind.i64.wrap ((q : Int) + X) = (q : Int) + X := IntWalk.i64_in _ (by omega)
  clear hcl hN hA hb hf
  go_enter Try.func8, Try.ntmps8
  go_wp2_with fail
  refine HC.out.mono ?_
  intro e w1 hm1
  obtain ⟨v, rfl, ho, hv, hb1⟩ := hm1
  obtain ⟨g1, cap, rfl, hA1, hcap, hg1, hg2⟩ := own_open ho hv
  rw [← HN.out] at hcap ⊢
  have HZ := Lib.hid (zz_any g1 n cap p N q X Y bs w1 HN.out hA1 HB.out HF.out hn hN2 hp hq)
  have HB1 := Lib.hid hb1
  clear ho hv hA1 hb1
  go_wp2_with fail
  refine HZ.out.mono ?_
  rintro e w2 ⟨rfl, rfl⟩
  go_wp2
  exact bodyPost_ret (v := .tuple #[.int .i64 q, .int .i64 ((q : Int) + X), .bool true]) (by simp [results, Try.results8, go_sem]) rfl ⟨rfl, HB1.out⟩
end Go.Proofs.Ytdeaodgcdacleaa.IdxC
