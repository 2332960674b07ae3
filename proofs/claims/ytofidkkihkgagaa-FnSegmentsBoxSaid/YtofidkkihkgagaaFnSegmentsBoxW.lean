/- The walk of FnSegmentsBox: whatever the arguments, it returns true, and what was in memory before is as it was. -/
import Derived.Test.YtofidkkihkgagaaSegR
import Derived.BigRegion
import Derived.Deep.RegionLaw
import Derived.Test.YtofidkkihkgagaaTail
namespace Go.Proofs.Ytofidkkihkgagaa.FnSegmentsBoxW
open Go.ChangeShapes Go.WideShapes Go.ChangeAt Go.RowKit
open Lst Mem SegM SegB SegO SegP SegR
set_option linter.unusedSimpArgs false

theorem iPinfo : (Try.prog.info? 36).map (fun i => (i.zero, i.size, i.bytes)) = some (some (.agg #[.int .i64 0, .int .i64 0]), 2, 16) := by kernel_rfl
theorem sPinfo : (Try.prog.info? 35).map (fun i => (i.zero, i.size, i.bytes)) = some (some (.agg #[.int .i64 0, .int .i64 0]), 2, 16) := by kernel_rfl
theorem iSinfo : (Try.prog.info? 28).map (fun i => (i.zero, i.size, i.bytes)) = some (some (.agg #[.int .i64 0, .slice none 0 0]), 2, 32) := by kernel_rfl
theorem sSinfo : (Try.prog.info? 31).map (fun i => (i.zero, i.size, i.bytes)) = some (some (.agg #[.int .i64 0, .slice none 0 0]), 2, 32) := by kernel_rfl

theorem keep_cell {W w1 : World} {B : Nat} (hb : Below B W w1) (hB : W.heap.size = B) {p : Addr} {v : Value} (h : W.cell? p = some v) : w1.cell? p = some v := by
  subst hB
  rw [hb.cell (World.block_lt_of_cell? W p h)]; exact h
/-- the box of one place -/
theorem one_any (V : World) : Calls Try.prog 5 #[.slice (some ⟨V.heap.size + 1, 0, none⟩) 1 1] ((V.alloc (.cells #[.int .i64 1, .int .i64 1] 36)).alloc (.cells #[.int .i64 0, .slice (some ⟨V.heap.size, 0, none⟩) 1 1] 28))
    fun e w' => e = .returned (.agg #[.int .i64 1, .int .i64 1, .int .i64 1, .int .i64 1]) ∧ Below ((V.alloc (.cells #[.int .i64 1, .int .i64 1] 36)).alloc (.cells #[.int .i64 0, .slice (some ⟨V.heap.size, 0, none⟩) 1 1] 28)).heap.size ((V.alloc (.cells #[.int .i64 1, .int .i64 1] 36)).alloc (.cells #[.int .i64 0, .slice (some ⟨V.heap.size, 0, none⟩) 1 1] 28)) w' := by
  have h1 := (Blk.new_ V #[.int .i64 1, .int .i64 1] 36).keep (bel_made (V.alloc (.cells #[.int .i64 1, .int .i64 1] 36)) #[.int .i64 0, .slice (some ⟨V.heap.size, 0, none⟩) 1 1] 28)
  have h2 := Blk.new_ (V.alloc (.cells #[.int .i64 1, .int .i64 1] 36)) #[.int .i64 0, .slice (some ⟨V.heap.size, 0, none⟩) 1 1] 28
  rw [World.size_alloc] at h2
  refine (segbox_any (some ⟨V.heap.size + 1, 0, none⟩) 1 1 [(0, [(1, 1)])] _ rfl (by omega) ?_ (fun _ => ⟨_, rfl, by simp, ?_⟩)).mono fun e w' ⟨he, hb⟩ => ⟨by rw [he]; rfl, hb⟩
  · intro s hs
    simp at hs
    subst hs
    exact ⟨by simp, rfl, by simp⟩
  · intro i hi
    match i, hi with
    | 0, _ =>
      refine ⟨h2.cell rfl, V.heap.size, 1, h2.cell rfl, fun j u hu => ?_, by simp; omega⟩
      rw [Nat.zero_add]
      exact h1.cell hu

set_option maxHeartbeats 6400000 in
set_option maxRecDepth 4000 in
theorem walk (a0 a1 : Option Addr) (n cap0 m cap1 : Nat) (ls ms : List Int) (w : World) (hn : n = ls.length) (hsz : n ≤ 100) (hl : ∀ x ∈ ls, 0 ≤ x ∧ x ≤ 255)
    (hm : m = ms.length) (hm0 : 0 < m) (hsz2 : m ≤ 1000) (hml : ∀ x ∈ ms, -32768 ≤ x ∧ x ≤ 32767)
    (hsrc : 0 < n → ∃ b off, a0 = some ⟨b, off, none⟩ ∧ b < w.heap.size ∧ At w b off (vals .u8 ls)) (hsrc2 : ∃ b off, a1 = some ⟨b, off, none⟩ ∧ b < w.heap.size ∧ At w b off (vals .i16 ms)) :
    Calls Try.prog 3 #[.slice a0 n cap0, .slice a1 m cap1] w fun e w' => e = .returned (.bool true) ∧ Below w.heap.size w w' := by
  obtain ⟨i1, hi1, iz1, iy1, ib1⟩ := info_parts iPinfo
  obtain ⟨i2, hi2, iz2, iy2, ib2⟩ := info_parts sPinfo
  obtain ⟨i3, hi3, iz3, iy3, ib3⟩ := info_parts iSinfo
  obtain ⟨i4, hi4, iz4, iy4, ib4⟩ := info_parts sSinfo
  obtain ⟨nb, noff, rfl, hnb, hnA⟩ := hsrc2
  have HN := Lib.hid hn
  have HL := Lib.hid hl
  have HM := Lib.hid hm
  have HML := Lib.hid hml
  have HS := Lib.hid hsrc
  have HNA := Lib.hid hnA
  have e1 : ¬ ((2147483647 : Int) < n) := by omega
  have e2 : ¬ ((2147483647 : Int) < m) := by omega
  have e3 : ¬ ((100 : Int) < n) := by omega
  have e4 : ¬ ((1000 : Int) < m) := by omega
  have e5 : ((m : Int) == 0) = false := by simp; omega
  clear hn hl hm hml hsrc hnA
  go_enter Try.func3, Try.ntmps3
  go_wp2
  go_loopw [5, 6, 7, 40] (fun a b at' i wr => ∃ (k : Nat) (S : List Sg) (q : Nat), k ≤ n ∧ i = .int .i64 k ∧ S.length = k ∧ (∀ s ∈ S, Sgk s) ∧ at' = .int .i64 q ∧ q ≤ 6 * k ∧ StepRow wr w.heap.size 28 36 a S ∧ StepRow wr w.heap.size 31 35 b S ∧ Below w.heap.size w wr) (fun _ _ _ i _ => n - (intOf i).toNat)
  case atStart =>
    refine ⟨0, [], 0, Nat.zero_le _, rfl, rfl, (fun s h => by cases h), rfl, Nat.zero_le _, (StepRow.new w _ _ _ (Nat.le_refl _)).below (bel_made _ _ _), ?_, (bel_made w _ _).alloc (by simp) _⟩
    have h := StepRow.new (w.alloc (.cells #[] 28)) w.heap.size 31 35 (by simp)
    rw [World.size_alloc] at h
    exact h
  case round =>
    obtain ⟨k, S, q, hk, rfl, hSl, hSk, rfl, hq, hA, hB, hbel⟩ := hrel
    by_cases hlt : k < n
    · obtain ⟨ob, ooff, rfl, hob, hoA⟩ := HS.out (by omega)
      have hlk : k < ls.length := by rw [← HN.out]; exact hlt
      have oc := hoA.get hlk
      obtain ⟨o, ho⟩ : ∃ x, x = ls.getD k 0 := ⟨_, rfl⟩
      rw [← ho] at oc
      have ob1 : 0 ≤ o ∧ o ≤ 255 := by rw [ho]; exact HL.out _ (getD_mem _ _ _ hlk)
      have oc1 := (hbel.cell (p := ⟨ob, ooff + k, none⟩) hob).trans oc
      have wo : o.tmod 4 = o % 4 := Int.tmod_eq_emod_of_nonneg ob1.1
      obtain ⟨op, hop⟩ : ∃ x, x = o % 4 := ⟨_, rfl⟩
      have hop4 : 0 ≤ op ∧ op ≤ 3 := by omega
      rw [← hop] at wo
      have wop : IntKind.i64.wrap op = op := IntWalk.i64_in _ (by omega)
      have wop2 : IntKind.u8.wrap op = op := by rw [IntKind.wrap_u8]; omega
      have HA := Lib.hid hA
      have HB := Lib.hid hB
      have HBL := Lib.hid hbel
      have HSK := Lib.hid hSk
      obtain ⟨W, hW⟩ : ∃ W, W = wr := ⟨_, rfl⟩
      subst hW
      clear hA hB hbel hSk oc hoA ho hop
      go_upto_region 12 with (fail)
      go_cut [54, 55] (fun s54 s55 wx => s54 = .int .i64 (cnt op : Nat) ∧ s55 = .int .i64 0 ∧ Blk W.heap.size 28 [.int .i64 op, .slice none 0 0] wx ∧ Blk (W.heap.size + 1) 31 [.int .i64 op, .slice none 0 0] wx ∧ Below W.heap.size W wx)
      case first =>
        have h4 : op = 0 ∨ op = 1 ∨ op = 2 ∨ op = 3 := by omega
        rcases h4 with rfl | rfl | rfl | rfl
        · go_wp2
          go_meet
          refine ⟨rfl, rfl, ((Blk.new_ W _ _).keep (bel_made _ _ _)).keep (bel_made _ _ _), ?_, ((bel_made W _ _).alloc (by simp) _).alloc (by simp; omega) _⟩
          refine Blk.keep ?_ (bel_made _ _ _)
          have h := Blk.new_ (W.alloc (.cells #[.int .i64 0, .slice none 0 0] 28)) #[.int .i64 0, .slice none 0 0] 31
          rw [World.size_alloc] at h
          exact h
        · go_wp2
          go_meet
          refine ⟨rfl, rfl, ((Blk.new_ W _ _).keep (bel_made _ _ _)).keep (bel_made _ _ _), ?_, ((bel_made W _ _).alloc (by simp) _).alloc (by simp; omega) _⟩
          refine Blk.keep ?_ (bel_made _ _ _)
          have h := Blk.new_ (W.alloc (.cells #[.int .i64 1, .slice none 0 0] 28)) #[.int .i64 1, .slice none 0 0] 31
          rw [World.size_alloc] at h
          exact h
        · go_wp2
          go_meet
          refine ⟨rfl, rfl, ((Blk.new_ W _ _).keep (bel_made _ _ _)).keep (bel_made _ _ _), ?_, ((bel_made W _ _).alloc (by simp) _).alloc (by simp; omega) _⟩
          refine Blk.keep ?_ (bel_made _ _ _)
          have h := Blk.new_ (W.alloc (.cells #[.int .i64 2, .slice none 0 0] 28)) #[.int .i64 2, .slice none 0 0] 31
          rw [World.size_alloc] at h
          exact h
        · go_wp2
          go_meet
          refine ⟨rfl, rfl, ((Blk.new_ W _ _).keep (bel_made _ _ _)).keep (bel_made _ _ _), ?_, ((bel_made W _ _).alloc (by simp) _).alloc (by simp; omega) _⟩
          refine Blk.keep ?_ (bel_made _ _ _)
          have h := Blk.new_ (W.alloc (.cells #[.int .i64 3, .slice none 0 0] 28)) #[.int .i64 3, .slice none 0 0] 31
          rw [World.size_alloc] at h
          exact h
      case rest =>
        obtain ⟨rfl, rfl, hx, hy, hbe⟩ := hcut
        have HX0 := Lib.hid hx
        have HY0 := Lib.hid hy
        have HB0 := Lib.hid hbe
        obtain ⟨C, hC⟩ : ∃ C, C = cnt op := ⟨_, rfl⟩
        have hC3 : C ≤ 3 := by rw [hC]; unfold cnt; split; omega; split <;> omega
        rw [← hC]
        have HC := Lib.hid hC
        clear hx hy hbe hC
        go_wp2
        go_loopw [7, 55] (fun at' i wq => ∃ (j q' : Nat) (ps : List Pt) (va vb : Value), j ≤ C ∧ i = .int .i64 j ∧ at' = .int .i64 q' ∧ q' ≤ q + 2 * j ∧ ps.length = j ∧ (∀ p ∈ ps, (-32768 ≤ p.1 ∧ p.1 ≤ 32767) ∧ (-32768 ≤ p.2 ∧ p.2 ≤ 32767)) ∧ Blk W.heap.size 28 [.int .i64 op, va] wq ∧ Blk (W.heap.size + 1) 31 [.int .i64 op, vb] wq ∧ wq.ownsRow (W.heap.size + 2) 36 2 va j (ps.flatMap (ptc .i64)) ∧ wq.ownsRow (W.heap.size + 2) 35 2 vb j (ps.flatMap (ptc .i64)) ∧ (va = .slice none 0 0 ↔ j = 0) ∧ (vb = .slice none 0 0 ↔ j = 0) ∧ Below W.heap.size W wq) (fun _ i _ => C - (intOf i).toNat)
        case atStart => exact ⟨0, q, [], _, _, Nat.zero_le _, rfl, rfl, by omega, rfl, (fun p h => by cases h), HX0.out, HY0.out, World.ownsRow_nil _ _ _ _, World.ownsRow_nil _ _ _ _, by simp, by simp, HB0.out⟩
        case round =>
          obtain ⟨j, q', ps, va, vb, hj, rfl, rfl, hq', hpl, hpb, hx, hy, hoa, hob2, hna, hnb2, hbe⟩ := hrel
          have hsx := hy.lt
          by_cases hjc : j < C
          · obtain ⟨r1, hr1⟩ : ∃ r, r = q' % m := ⟨_, rfl⟩
            obtain ⟨r2, hr2⟩ : ∃ r, r = (q' + 1) % m := ⟨_, rfl⟩
            have g1 : r1 < m := by rw [hr1]; exact Nat.mod_lt _ hm0
            have g2 : r2 < m := by rw [hr2]; exact Nat.mod_lt _ hm0
            have f1 : (q' : Int).tmod (m : Int) = (r1 : Int) := by rw [hr1, Int.ofNat_tmod]
            have f2 : ((q' : Int) + 1).tmod (m : Int) = (r2 : Int) := by rw [hr2]; exact Int.ofNat_tmod (q' + 1) m
            have hbq := HBL.out.trans (hbe.mono HBL.out.size)
            have d1 := (hbq.cell (p := ⟨nb, noff + r1, none⟩) hnb).trans (HNA.out.get (j := r1) (by rw [← HM.out]; exact g1))
            have d2 := (hbq.cell (p := ⟨nb, noff + r2, none⟩) hnb).trans (HNA.out.get (j := r2) (by rw [← HM.out]; exact g2))
            obtain ⟨px, hpx⟩ : ∃ x, x = ms.getD r1 0 := ⟨_, rfl⟩
            obtain ⟨py, hpy⟩ : ∃ x, x = ms.getD r2 0 := ⟨_, rfl⟩
            rw [← hpx] at d1
            rw [← hpy] at d2
            have bx : -32768 ≤ px ∧ px ≤ 32767 := by rw [hpx]; exact HML.out _ (getD_mem _ _ _ (by rw [← HM.out]; exact g1))
            have by' : -32768 ≤ py ∧ py ≤ 32767 := by rw [hpy]; exact HML.out _ (getD_mem _ _ _ (by rw [← HM.out]; exact g2))
            have v1 : IntKind.i64.wrap px = px := IntWalk.i64_in _ (by omega)
            have v2 : IntKind.i64.wrap py = py := IntWalk.i64_in _ (by omega)
            have v3 : IntKind.i64.wrap ((q' : Int) + 1) = (q' : Int) + 1 := IntWalk.i64_in _ (by omega)
            have v4 : IntKind.i64.wrap (r1 : Int) = (r1 : Int) := IntWalk.i64_in _ (by omega)
            have v5 : IntKind.i64.wrap (r2 : Int) = (r2 : Int) := IntWalk.i64_in _ (by omega)
            have hm1 : ¬ (m = 0) := by omega
            have d1a := keep_new (o := .cells #[.int .i64 0, .int .i64 0] 35) d1
            have d2a := keep_new (o := .cells #[.int .i64 0, .int .i64 0] 35) d2
            have HPB := Lib.hid hpb
            clear hna hnb2 hbq hpx hpy hr1 hr2 hpb
            go_wp2_with fail
            go_region
            obtain ⟨U, hU⟩ : ∃ U, U = (wr.alloc (.cells #[.int .i64 px, .int .i64 py] 35)).drew := ⟨_, rfl⟩
            have hwU : Below wr.heap.size wr U := by rw [hU]; exact Below.drew (bel_made wr _ _)
            have hp0 : Blk wr.heap.size 35 [.int .i64 px, .int .i64 py] U := by rw [hU]; exact Blk.new_ wr _ _
            rw [← hU]
            -- REGION16
            clear hU
            have oaX := own_keep hoa hwU
            have obX := own_keep hob2 hwU
            have own0oa := hoa
            have own0ob := hob2
            have hlX : Below W.heap.size W U := hbe.trans (hwU.mono hbe.size)
            have hzX : W.heap.size + 2 ≤ U.heap.size := Nat.le_trans hsx hwU.size
            have hxU := hx.keep hwU
            have hyU := hy.keep hwU
            go_wp2_with fail
            refine Tail.start (S := (fun w1 => Blk W.heap.size 28 [.int .i64 op, va] w1 ∧ Blk (W.heap.size + 1) 31 [.int .i64 op, vb] w1 ∧ Blk wr.heap.size 35 [.int .i64 px, .int .i64 py] w1)) (tl := [15, 16, 17]) (by kernel_rfl) ⟨hxU, hyU, hp0⟩ (fun hHeld => ?_)
            obtain ⟨X, hX⟩ : ∃ X, X = U.drew := ⟨_, rfl⟩
            rw [← hX] at hHeld
            rw [← hX]
            replace oaX : X.ownsRow (W.heap.size + 2) 36 2 va j (ps.flatMap (ptc .i64)) := by rw [hX]; exact oaX
            replace obX : X.ownsRow (W.heap.size + 2) 35 2 vb j (ps.flatMap (ptc .i64)) := by rw [hX]; exact obX
            replace hlX : Below W.heap.size W X := by rw [hX]; exact Below.drew hlX
            replace hzX : W.heap.size + 2 ≤ X.heap.size := by rw [hX]; exact hzX
            clear hX hxU hyU hp0 hwU
            refine Tail.take (i := 0) (v := ?v0n1) rfl (by kernel_rfl) (by kernel_rfl) (by kernel_rfl) (by kernel_rfl) (by kernel_rfl) (fun _ _ _ h => h) (Or.inl ⟨by rfl, ?hy0n1⟩) (by assumption) ?rest0n1
            case hy0n1 => (intro w1 hS; obtain ⟨s1, s2, s3⟩ := hS; have x1 := s1.cell (i := 1) rfl; have y1 := s2.cell (i := 1) rfl; have p0 := s3.cell (i := 0) rfl; have p1 := s3.cell (i := 1) rfl; go_simp <;> with_reducible rfl)
            try simp only [Act.put, List.setIfInBounds_toArray, List.set_cons_zero, List.set_cons_succ]
            refine Tail.take (i := 1) (v := ?v1n2) rfl (by kernel_rfl) (by kernel_rfl) (by kernel_rfl) (by kernel_rfl) (by kernel_rfl) (fun _ _ _ h => h) (Or.inl ⟨by rfl, ?hy1n2⟩) (by assumption) ?rest1n2
            case hy1n2 => (intro w1 hS; obtain ⟨s1, s2, s3⟩ := hS; have x1 := s1.cell (i := 1) rfl; have y1 := s2.cell (i := 1) rfl; have p0 := s3.cell (i := 0) rfl; have p1 := s3.cell (i := 1) rfl; go_simp <;> with_reducible rfl)
            try simp only [Act.put, List.setIfInBounds_toArray, List.set_cons_zero, List.set_cons_succ]
            refine Tail.take (i := 2) (v := ?v2n3) rfl (by kernel_rfl) (by kernel_rfl) (by kernel_rfl) (by kernel_rfl) (by kernel_rfl) (fun _ _ _ h => h) (Or.inl ⟨by rfl, ?hy2n3⟩) (by assumption) ?rest2n3
            case hy2n3 => (intro w1 hS; obtain ⟨s1, s2, s3⟩ := hS; have x1 := s1.cell (i := 1) rfl; have y1 := s2.cell (i := 1) rfl; have p0 := s3.cell (i := 0) rfl; have p1 := s3.cell (i := 1) rfl; go_simp <;> with_reducible rfl)
            try simp only [Act.put, List.setIfInBounds_toArray, List.set_cons_zero, List.set_cons_succ]
            refine Tail.take (i := 3) (v := ?v3n4) rfl (by kernel_rfl) (by kernel_rfl) (by kernel_rfl) (by kernel_rfl) (by kernel_rfl) (fun _ _ _ h => h) (Or.inl ⟨by rfl, ?hy3n4⟩) (by assumption) ?rest3n4
            case hy3n4 => (intro w1 hS; obtain ⟨s1, s2, s3⟩ := hS; have x1 := s1.cell (i := 1) rfl; have y1 := s2.cell (i := 1) rfl; have p0 := s3.cell (i := 0) rfl; have p1 := s3.cell (i := 1) rfl; go_simp <;> with_reducible rfl)
            try simp only [Act.put, List.setIfInBounds_toArray, List.set_cons_zero, List.set_cons_succ]
            refine Tail.take (i := 4) (v := ?v4n5) rfl (by kernel_rfl) (by kernel_rfl) (by kernel_rfl) (by kernel_rfl) (by kernel_rfl) (fun _ _ _ h => h) (Or.inl ⟨by rfl, ?hy4n5⟩) (by assumption) ?rest4n5
            case hy4n5 => (intro w1 hS; obtain ⟨s1, s2, s3⟩ := hS; have x1 := s1.cell (i := 1) rfl; have y1 := s2.cell (i := 1) rfl; have p0 := s3.cell (i := 0) rfl; have p1 := s3.cell (i := 1) rfl; go_simp <;> with_reducible rfl)
            try simp only [Act.put, List.setIfInBounds_toArray, List.set_cons_zero, List.set_cons_succ]
            refine Tail.take (i := 5) (v := ?v5n6) rfl (by kernel_rfl) (by kernel_rfl) (by kernel_rfl) (by kernel_rfl) (by kernel_rfl) (fun _ _ _ h => h) (Or.inl ⟨by rfl, ?hy5n6⟩) (by assumption) ?rest5n6
            case hy5n6 => (intro w1 hS; obtain ⟨s1, s2, s3⟩ := hS; have x1 := s1.cell (i := 1) rfl; have y1 := s2.cell (i := 1) rfl; have p0 := s3.cell (i := 0) rfl; have p1 := s3.cell (i := 1) rfl; go_simp <;> with_reducible rfl)
            try simp only [Act.put, List.setIfInBounds_toArray, List.set_cons_zero, List.set_cons_succ]
            refine Tail.take (i := 6) (v := ?v6n7) rfl (by kernel_rfl) (by kernel_rfl) (by kernel_rfl) (by kernel_rfl) (by kernel_rfl) (fun _ _ _ h => h) (Or.inl ⟨by rfl, ?hy6n7⟩) (by assumption) ?rest6n7
            case hy6n7 => (intro w1 hS; obtain ⟨s1, s2, s3⟩ := hS; have x1 := s1.cell (i := 1) rfl; have y1 := s2.cell (i := 1) rfl; have p0 := s3.cell (i := 0) rfl; have p1 := s3.cell (i := 1) rfl; go_simp <;> with_reducible rfl)
            try simp only [Act.put, List.setIfInBounds_toArray, List.set_cons_zero, List.set_cons_succ]
            refine Tail.take (i := 9) (v := ?v9n8) rfl (by kernel_rfl) (by kernel_rfl) (by kernel_rfl) (by kernel_rfl) (by kernel_rfl) (fun _ _ _ h => h) (Or.inl ⟨by rfl, ?hy9n8⟩) (by assumption) ?rest9n8
            case hy9n8 => (intro w1 hS; obtain ⟨s1, s2, s3⟩ := hS; have x1 := s1.cell (i := 1) rfl; have y1 := s2.cell (i := 1) rfl; have p0 := s3.cell (i := 0) rfl; have p1 := s3.cell (i := 1) rfl; go_simp <;> with_reducible rfl)
            try simp only [Act.put, List.setIfInBounds_toArray, List.set_cons_zero, List.set_cons_succ]
            refine Tail.take (i := 10) (v := ?v10n9) rfl (by kernel_rfl) (by kernel_rfl) (by kernel_rfl) (by kernel_rfl) (by kernel_rfl) (fun _ _ _ h => h) (Or.inl ⟨by rfl, ?hy10n9⟩) (by assumption) ?rest10n9
            case hy10n9 => (intro w1 hS; obtain ⟨s1, s2, s3⟩ := hS; have x1 := s1.cell (i := 1) rfl; have y1 := s2.cell (i := 1) rfl; have p0 := s3.cell (i := 0) rfl; have p1 := s3.cell (i := 1) rfl; go_simp <;> with_reducible rfl)
            try simp only [Act.put, List.setIfInBounds_toArray, List.set_cons_zero, List.set_cons_succ]
            refine Tail.take (i := 11) (v := ?v11n10) rfl (by kernel_rfl) (by kernel_rfl) (by kernel_rfl) (by kernel_rfl) (by kernel_rfl) (fun _ _ _ h => h) (Or.inl ⟨by rfl, ?hy11n10⟩) (by assumption) ?rest11n10
            case hy11n10 => (intro w1 hS; obtain ⟨s1, s2, s3⟩ := hS; have x1 := s1.cell (i := 1) rfl; have y1 := s2.cell (i := 1) rfl; have p0 := s3.cell (i := 0) rfl; have p1 := s3.cell (i := 1) rfl; go_simp <;> with_reducible rfl)
            try simp only [Act.put, List.setIfInBounds_toArray, List.set_cons_zero, List.set_cons_succ]
            refine Tail.ready (rs := [7, 12]) (by kernel_rfl) (by simp) ?_
            refine Tail.AllReadyL.cons rfl (fun K hK => ?_) ?_
            · skip
              go_simp
              refine hK.out _ _ ⟨hHeld.1.keep (bel_made _ _ _), hHeld.2.1.keep (bel_made _ _ _), hHeld.2.2.keep (bel_made _ _ _)⟩ (fun hHeld2 => ?_)
              clear hK K
              obtain ⟨Y0, hY⟩ : ∃ Y0, Y0 = X.alloc (.cells #[.int .i64 px, .int .i64 py] 36) := ⟨_, rfl⟩
              have hb7 : Blk X.heap.size 36 [.int .i64 px, .int .i64 py] Y0 := by rw [hY]; exact Blk.new_ X _ _
              have hdY0 : Below X.heap.size X Y0 := by rw [hY]; exact bel_made X _ _
              rw [← hY] at hHeld2
              rw [← hY]
              try simp only [Act.put, List.setIfInBounds_toArray, List.set_cons_zero, List.set_cons_succ]
              have oaY0 := own_keep oaX hdY0
              have obY0 := own_keep obX hdY0
              have hzY0 : W.heap.size + 2 ≤ Y0.heap.size := Nat.le_trans hzX hdY0.size
              have hlY0 := hlX.trans (hdY0.mono hlX.size)
              clear hHeld hY
              have hHeld := hHeld2
              clear hHeld2
              refine Tail.ready (rs := [8, 12]) (by kernel_rfl) (by simp) ?_
              refine Tail.AllReadyL.cons rfl (fun K hK => ?_) ?_
              · skip
                refine step_app2 rfl (.tmp 78) (.tmp 84) 26 rfl (W.heap.size + 2) 36 i1 (.agg #[.int .i64 0, .int .i64 0]) 2 16 Try.underlying26 hi1 iz1 iy1 ib1 rfl (by decide) va j (ps.flatMap (ptc .i64)) rfl oaY0 ⟨X.heap.size, 0, none⟩ 1 1 [.int .i64 px, .int .i64 py] rfl rfl (two_cells hb7) (two_ints px py) (by unfold maxLen; omega) (by omega) hzY0 ?_
                intro v8 Y1 own8 grow8 nil8 _
                refine hK.out _ _ ⟨blk_grown hHeld.1 grow8 (own_ne oaY0 (.inl (by omega))), blk_grown hHeld.2.1 grow8 (own_ne oaY0 (.inl (by omega))), blk_grown hHeld.2.2 grow8 (by first | exact own_ne (own0oa) (.inr (Nat.le_refl _)))⟩ (fun hHeld2 => ?_)
                clear hK K
                try simp only [Act.put, List.setIfInBounds_toArray, List.set_cons_zero, List.set_cons_succ]
                have obY1 := obY0.kept grow8 (own_far obY0 oaY0 (by decide))
                have oaY1 := own8
                have hlY1 : Below W.heap.size W Y1 := hlY0.grown grow8 hlY0.size (fun g hg => by have := (own_isT oaY0 hg).2; omega)
                have hzY1 : W.heap.size + 2 ≤ Y1.heap.size := Nat.le_trans hzY0 grow8.size
                clear hHeld
                have hHeld := hHeld2
                clear hHeld2
                refine Tail.take (i := 14) (v := ?v14n11) rfl (by kernel_rfl) (by kernel_rfl) (by kernel_rfl) (by kernel_rfl) (by kernel_rfl) (fun _ _ _ h => h) (Or.inl ⟨by rfl, ?hy14n11⟩) (by assumption) ?rest14n11
                case hy14n11 => (intro w1 hS; obtain ⟨s1, s2, s3⟩ := hS; have x1 := s1.cell (i := 1) rfl; have y1 := s2.cell (i := 1) rfl; have p0 := s3.cell (i := 0) rfl; have p1 := s3.cell (i := 1) rfl; go_simp <;> with_reducible rfl)
                try simp only [Act.put, List.setIfInBounds_toArray, List.set_cons_zero, List.set_cons_succ]
                refine Tail.ready (rs := [12]) (by kernel_rfl) (by simp) ?_
                refine Tail.AllReadyL.cons rfl (fun K hK => ?_) Tail.AllReadyL.nil
                go_simp
                refine hK.out _ _ ⟨hHeld.1.keep (bel_made _ _ _), hHeld.2.1.keep (bel_made _ _ _), hHeld.2.2.keep (bel_made _ _ _)⟩ (fun hHeld2 => ?_)
                clear hK K
                obtain ⟨Y2, hY⟩ : ∃ Y2, Y2 = Y1.alloc (.cells #[.int .i64 px, .int .i64 py] 35) := ⟨_, rfl⟩
                have hb12 : Blk Y1.heap.size 35 [.int .i64 px, .int .i64 py] Y2 := by rw [hY]; exact Blk.new_ Y1 _ _
                have hdY2 : Below Y1.heap.size Y1 Y2 := by rw [hY]; exact bel_made Y1 _ _
                rw [← hY] at hHeld2
                rw [← hY]
                try simp only [Act.put, List.setIfInBounds_toArray, List.set_cons_zero, List.set_cons_succ]
                have oaY2 := own_keep oaY1 hdY2
                have obY2 := own_keep obY1 hdY2
                have hzY2 : W.heap.size + 2 ≤ Y2.heap.size := Nat.le_trans hzY1 hdY2.size
                have hlY2 := hlY1.trans (hdY2.mono hlY1.size)
                clear hHeld hY
                have hHeld := hHeld2
                clear hHeld2
                refine Tail.ready (rs := [13]) (by kernel_rfl) (by simp) ?_
                refine Tail.AllReadyL.cons rfl (fun K hK => ?_) Tail.AllReadyL.nil
                refine step_app2 rfl (.tmp 87) (.tmp 89) 29 rfl (W.heap.size + 2) 35 i2 (.agg #[.int .i64 0, .int .i64 0]) 2 16 Try.underlying29 hi2 iz2 iy2 ib2 rfl (by decide) vb j (ps.flatMap (ptc .i64)) rfl obY2 ⟨Y1.heap.size, 0, none⟩ 1 1 [.int .i64 px, .int .i64 py] rfl rfl (two_cells hb12) (two_ints px py) (by unfold maxLen; omega) (by omega) hzY2 ?_
                intro v13 Y3 own13 grow13 nil13 _
                refine hK.out _ _ ⟨blk_grown hHeld.1 grow13 (own_ne obY2 (.inl (by omega))), blk_grown hHeld.2.1 grow13 (own_ne obY2 (.inl (by omega))), blk_grown hHeld.2.2 grow13 (by first | exact own_ne (own0ob) (.inr (Nat.le_refl _)))⟩ (fun hHeld2 => ?_)
                clear hK K
                try simp only [Act.put, List.setIfInBounds_toArray, List.set_cons_zero, List.set_cons_succ]
                have oaY3 := oaY2.kept grow13 (own_far oaY2 obY2 (by decide))
                have obY3 := own13
                have hlY3 : Below W.heap.size W Y3 := hlY2.grown grow13 hlY2.size (fun g hg => by have := (own_isT obY2 hg).2; omega)
                have hzY3 : W.heap.size + 2 ≤ Y3.heap.size := Nat.le_trans hzY2 grow13.size
                clear hHeld
                have hHeld := hHeld2
                clear hHeld2
                obtain ⟨r1, r2, r3⟩ := hHeld
                have x1 := r1.cell (i := 1) rfl
                have y1 := r2.cell (i := 1) rfl
                have xf := r1.frozen
                have yf := r2.frozen
                have HX1 := Lib.hid r1
                have HY1 := Lib.hid r2
                have HOA1 := Lib.hid oaY3
                have HOB1 := Lib.hid obY3
                have HL1 := Lib.hid hlY3
                have hn1 : ¬ v8 = .slice none 0 0 := fun h => by have h2 := (nil8.1 h).2; omega
                have hn2 : ¬ v13 = .slice none 0 0 := fun h => by have h2 := (nil13.1 h).2; omega
                obtain ⟨g8, c8, hv8, _, _, _, _⟩ := open_row oaY3 hn1
                obtain ⟨g13, c13, hv13, _, _, _, _⟩ := open_row obY3 hn2
                clear r1 r2 r3
                subst hv8 hv13
                refine Tail.ready (rs := [15]) (by kernel_rfl) (by simp) (Tail.AllReadyL.last rfl (by rfl) (fun K hK => ?_) Tail.AllReadyL.nil)
                go_simp
                refine hK.out _ _ ?_
                clear hK K
                try simp only [Act.put, List.setIfInBounds_toArray, List.set_cons_zero, List.set_cons_succ]
                refine Tail.ready (rs := [16]) (by kernel_rfl) (by simp) (Tail.AllReadyL.last rfl (by rfl) (fun K hK => ?_) Tail.AllReadyL.nil)
                go_simp
                refine hK.out _ _ ?_
                clear hK K
                try simp only [Act.put, List.setIfInBounds_toArray, List.set_cons_zero, List.set_cons_succ]
                refine Tail.ready (rs := [17]) (by kernel_rfl) (by simp) (Tail.AllReadyL.last rfl (by rfl) (fun K hK => ?_) Tail.AllReadyL.nil)
                go_simp
                refine hK.out _ _ ?_
                clear hK K
                try simp only [Act.put, List.setIfInBounds_toArray, List.set_cons_zero, List.set_cons_succ]
                refine Tail.done (by kernel_rfl) ?_ _
                go_wp2
                go_roundw
                case rel =>
                  refine ⟨j + 1, q' + 2, ps ++ [(px, py)], _, _, by omega, by go_num, by go_num, by omega, by rw [List.length_append, hpl]; rfl, fun p hp => ?_, (HX1.out.set_ 1 _).other (by omega), (HY1.out.other (by omega)).set_ 1 _, ?_, ?_, ?_, ?_, (HL1.out.setCell (p := ⟨W.heap.size, 1, none⟩) (Nat.le_refl _) _).setCell (p := ⟨W.heap.size + 1, 1, none⟩) (by simp) _⟩
                  · rcases List.mem_append.1 hp with h | h
                    · exact HPB.out p h
                    · simp at h; subst h; exact ⟨bx, by'⟩
                  · rw [List.flatMap_append]; exact own_set (own_set HOA1.out (by simp) _) (by simp) _
                  · rw [List.flatMap_append]; exact own_set (own_set HOB1.out (by simp) _) (by simp) _
                  · simp
                  · simp
                case measure => simp [intOf]; omega
              refine Tail.AllReadyL.cons rfl (fun K hK => ?_) Tail.AllReadyL.nil
              go_simp
              refine hK.out _ _ ⟨hHeld.1.keep (bel_made _ _ _), hHeld.2.1.keep (bel_made _ _ _), hHeld.2.2.keep (bel_made _ _ _)⟩ (fun hHeld2 => ?_)
              clear hK K
              obtain ⟨Y1, hY⟩ : ∃ Y1, Y1 = Y0.alloc (.cells #[.int .i64 px, .int .i64 py] 35) := ⟨_, rfl⟩
              have hb12 : Blk Y0.heap.size 35 [.int .i64 px, .int .i64 py] Y1 := by rw [hY]; exact Blk.new_ Y0 _ _
              have hdY1 : Below Y0.heap.size Y0 Y1 := by rw [hY]; exact bel_made Y0 _ _
              rw [← hY] at hHeld2
              rw [← hY]
              try simp only [Act.put, List.setIfInBounds_toArray, List.set_cons_zero, List.set_cons_succ]
              have oaY1 := own_keep oaY0 hdY1
              have obY1 := own_keep obY0 hdY1
              have hb7Y1 := hb7.keep hdY1
              have hzY1 : W.heap.size + 2 ≤ Y1.heap.size := Nat.le_trans hzY0 hdY1.size
              have hlY1 := hlY0.trans (hdY1.mono hlY0.size)
              clear hHeld hY
              have hHeld := hHeld2
              clear hHeld2
              refine Tail.ready (rs := [8]) (by kernel_rfl) (by simp) ?_
              refine Tail.AllReadyL.cons rfl (fun K hK => ?_) Tail.AllReadyL.nil
              refine step_app2 rfl (.tmp 78) (.tmp 84) 26 rfl (W.heap.size + 2) 36 i1 (.agg #[.int .i64 0, .int .i64 0]) 2 16 Try.underlying26 hi1 iz1 iy1 ib1 rfl (by decide) va j (ps.flatMap (ptc .i64)) rfl oaY1 ⟨X.heap.size, 0, none⟩ 1 1 [.int .i64 px, .int .i64 py] rfl rfl (two_cells hb7Y1) (two_ints px py) (by unfold maxLen; omega) (by omega) hzY1 ?_
              intro v8 Y2 own8 grow8 nil8 _
              refine hK.out _ _ ⟨blk_grown hHeld.1 grow8 (own_ne oaY1 (.inl (by omega))), blk_grown hHeld.2.1 grow8 (own_ne oaY1 (.inl (by omega))), blk_grown hHeld.2.2 grow8 (by first | exact own_ne (own0oa) (.inr (Nat.le_refl _)))⟩ (fun hHeld2 => ?_)
              clear hK K
              try simp only [Act.put, List.setIfInBounds_toArray, List.set_cons_zero, List.set_cons_succ]
              have obY2 := obY1.kept grow8 (own_far obY1 oaY1 (by decide))
              have oaY2 := own8
              have hb12Y2 := blk_grown hb12 grow8 (by intro he; exact (IsT.ne (own_isT oaY1 he).1 ⟨_, hb12⟩ (by decide)) rfl)
              have hlY2 : Below W.heap.size W Y2 := hlY1.grown grow8 hlY1.size (fun g hg => by have := (own_isT oaY1 hg).2; omega)
              have hzY2 : W.heap.size + 2 ≤ Y2.heap.size := Nat.le_trans hzY1 grow8.size
              clear hHeld
              have hHeld := hHeld2
              clear hHeld2
              refine Tail.take (i := 14) (v := ?v14n12) rfl (by kernel_rfl) (by kernel_rfl) (by kernel_rfl) (by kernel_rfl) (by kernel_rfl) (fun _ _ _ h => h) (Or.inl ⟨by rfl, ?hy14n12⟩) (by assumption) ?rest14n12
              case hy14n12 => (intro w1 hS; obtain ⟨s1, s2, s3⟩ := hS; have x1 := s1.cell (i := 1) rfl; have y1 := s2.cell (i := 1) rfl; have p0 := s3.cell (i := 0) rfl; have p1 := s3.cell (i := 1) rfl; go_simp <;> with_reducible rfl)
              try simp only [Act.put, List.setIfInBounds_toArray, List.set_cons_zero, List.set_cons_succ]
              refine Tail.ready (rs := [13]) (by kernel_rfl) (by simp) ?_
              refine Tail.AllReadyL.cons rfl (fun K hK => ?_) Tail.AllReadyL.nil
              refine step_app2 rfl (.tmp 87) (.tmp 89) 29 rfl (W.heap.size + 2) 35 i2 (.agg #[.int .i64 0, .int .i64 0]) 2 16 Try.underlying29 hi2 iz2 iy2 ib2 rfl (by decide) vb j (ps.flatMap (ptc .i64)) rfl obY2 ⟨Y0.heap.size, 0, none⟩ 1 1 [.int .i64 px, .int .i64 py] rfl rfl (two_cells hb12Y2) (two_ints px py) (by unfold maxLen; omega) (by omega) hzY2 ?_
              intro v13 Y3 own13 grow13 nil13 _
              refine hK.out _ _ ⟨blk_grown hHeld.1 grow13 (own_ne obY2 (.inl (by omega))), blk_grown hHeld.2.1 grow13 (own_ne obY2 (.inl (by omega))), blk_grown hHeld.2.2 grow13 (by first | exact own_ne (own0ob) (.inr (Nat.le_refl _)))⟩ (fun hHeld2 => ?_)
              clear hK K
              try simp only [Act.put, List.setIfInBounds_toArray, List.set_cons_zero, List.set_cons_succ]
              have oaY3 := oaY2.kept grow13 (own_far oaY2 obY2 (by decide))
              have obY3 := own13
              have hlY3 : Below W.heap.size W Y3 := hlY2.grown grow13 hlY2.size (fun g hg => by have := (own_isT obY2 hg).2; omega)
              have hzY3 : W.heap.size + 2 ≤ Y3.heap.size := Nat.le_trans hzY2 grow13.size
              clear hHeld
              have hHeld := hHeld2
              clear hHeld2
              obtain ⟨r1, r2, r3⟩ := hHeld
              have x1 := r1.cell (i := 1) rfl
              have y1 := r2.cell (i := 1) rfl
              have xf := r1.frozen
              have yf := r2.frozen
              have HX1 := Lib.hid r1
              have HY1 := Lib.hid r2
              have HOA1 := Lib.hid oaY3
              have HOB1 := Lib.hid obY3
              have HL1 := Lib.hid hlY3
              have hn1 : ¬ v8 = .slice none 0 0 := fun h => by have h2 := (nil8.1 h).2; omega
              have hn2 : ¬ v13 = .slice none 0 0 := fun h => by have h2 := (nil13.1 h).2; omega
              obtain ⟨g8, c8, hv8, _, _, _, _⟩ := open_row oaY3 hn1
              obtain ⟨g13, c13, hv13, _, _, _, _⟩ := open_row obY3 hn2
              clear r1 r2 r3
              subst hv8 hv13
              refine Tail.ready (rs := [15]) (by kernel_rfl) (by simp) (Tail.AllReadyL.last rfl (by rfl) (fun K hK => ?_) Tail.AllReadyL.nil)
              go_simp
              refine hK.out _ _ ?_
              clear hK K
              try simp only [Act.put, List.setIfInBounds_toArray, List.set_cons_zero, List.set_cons_succ]
              refine Tail.ready (rs := [16]) (by kernel_rfl) (by simp) (Tail.AllReadyL.last rfl (by rfl) (fun K hK => ?_) Tail.AllReadyL.nil)
              go_simp
              refine hK.out _ _ ?_
              clear hK K
              try simp only [Act.put, List.setIfInBounds_toArray, List.set_cons_zero, List.set_cons_succ]
              refine Tail.ready (rs := [17]) (by kernel_rfl) (by simp) (Tail.AllReadyL.last rfl (by rfl) (fun K hK => ?_) Tail.AllReadyL.nil)
              go_simp
              refine hK.out _ _ ?_
              clear hK K
              try simp only [Act.put, List.setIfInBounds_toArray, List.set_cons_zero, List.set_cons_succ]
              refine Tail.done (by kernel_rfl) ?_ _
              go_wp2
              go_roundw
              case rel =>
                refine ⟨j + 1, q' + 2, ps ++ [(px, py)], _, _, by omega, by go_num, by go_num, by omega, by rw [List.length_append, hpl]; rfl, fun p hp => ?_, (HX1.out.set_ 1 _).other (by omega), (HY1.out.other (by omega)).set_ 1 _, ?_, ?_, ?_, ?_, (HL1.out.setCell (p := ⟨W.heap.size, 1, none⟩) (Nat.le_refl _) _).setCell (p := ⟨W.heap.size + 1, 1, none⟩) (by simp) _⟩
                · rcases List.mem_append.1 hp with h | h
                  · exact HPB.out p h
                  · simp at h; subst h; exact ⟨bx, by'⟩
                · rw [List.flatMap_append]; exact own_set (own_set HOA1.out (by simp) _) (by simp) _
                · rw [List.flatMap_append]; exact own_set (own_set HOB1.out (by simp) _) (by simp) _
                · simp
                · simp
              case measure => simp [intOf]; omega
            refine Tail.AllReadyL.cons rfl (fun K hK => ?_) Tail.AllReadyL.nil
            go_simp
            refine hK.out _ _ ⟨hHeld.1.keep (bel_made _ _ _), hHeld.2.1.keep (bel_made _ _ _), hHeld.2.2.keep (bel_made _ _ _)⟩ (fun hHeld2 => ?_)
            clear hK K
            obtain ⟨Y0, hY⟩ : ∃ Y0, Y0 = X.alloc (.cells #[.int .i64 px, .int .i64 py] 35) := ⟨_, rfl⟩
            have hb12 : Blk X.heap.size 35 [.int .i64 px, .int .i64 py] Y0 := by rw [hY]; exact Blk.new_ X _ _
            have hdY0 : Below X.heap.size X Y0 := by rw [hY]; exact bel_made X _ _
            rw [← hY] at hHeld2
            rw [← hY]
            try simp only [Act.put, List.setIfInBounds_toArray, List.set_cons_zero, List.set_cons_succ]
            have oaY0 := own_keep oaX hdY0
            have obY0 := own_keep obX hdY0
            have hzY0 : W.heap.size + 2 ≤ Y0.heap.size := Nat.le_trans hzX hdY0.size
            have hlY0 := hlX.trans (hdY0.mono hlX.size)
            clear hHeld hY
            have hHeld := hHeld2
            clear hHeld2
            refine Tail.ready (rs := [7]) (by kernel_rfl) (by simp) ?_
            refine Tail.AllReadyL.cons rfl (fun K hK => ?_) Tail.AllReadyL.nil
            go_simp
            refine hK.out _ _ ⟨hHeld.1.keep (bel_made _ _ _), hHeld.2.1.keep (bel_made _ _ _), hHeld.2.2.keep (bel_made _ _ _)⟩ (fun hHeld2 => ?_)
            clear hK K
            obtain ⟨Y1, hY⟩ : ∃ Y1, Y1 = Y0.alloc (.cells #[.int .i64 px, .int .i64 py] 36) := ⟨_, rfl⟩
            have hb7 : Blk Y0.heap.size 36 [.int .i64 px, .int .i64 py] Y1 := by rw [hY]; exact Blk.new_ Y0 _ _
            have hdY1 : Below Y0.heap.size Y0 Y1 := by rw [hY]; exact bel_made Y0 _ _
            rw [← hY] at hHeld2
            rw [← hY]
            try simp only [Act.put, List.setIfInBounds_toArray, List.set_cons_zero, List.set_cons_succ]
            have oaY1 := own_keep oaY0 hdY1
            have obY1 := own_keep obY0 hdY1
            have hb12Y1 := hb12.keep hdY1
            have hzY1 : W.heap.size + 2 ≤ Y1.heap.size := Nat.le_trans hzY0 hdY1.size
            have hlY1 := hlY0.trans (hdY1.mono hlY0.size)
            clear hHeld hY
            have hHeld := hHeld2
            clear hHeld2
            refine Tail.ready (rs := [8]) (by kernel_rfl) (by simp) ?_
            refine Tail.AllReadyL.cons rfl (fun K hK => ?_) Tail.AllReadyL.nil
            refine step_app2 rfl (.tmp 78) (.tmp 84) 26 rfl (W.heap.size + 2) 36 i1 (.agg #[.int .i64 0, .int .i64 0]) 2 16 Try.underlying26 hi1 iz1 iy1 ib1 rfl (by decide) va j (ps.flatMap (ptc .i64)) rfl oaY1 ⟨Y0.heap.size, 0, none⟩ 1 1 [.int .i64 px, .int .i64 py] rfl rfl (two_cells hb7) (two_ints px py) (by unfold maxLen; omega) (by omega) hzY1 ?_
            intro v8 Y2 own8 grow8 nil8 _
            refine hK.out _ _ ⟨blk_grown hHeld.1 grow8 (own_ne oaY1 (.inl (by omega))), blk_grown hHeld.2.1 grow8 (own_ne oaY1 (.inl (by omega))), blk_grown hHeld.2.2 grow8 (by first | exact own_ne (own0oa) (.inr (Nat.le_refl _)))⟩ (fun hHeld2 => ?_)
            clear hK K
            try simp only [Act.put, List.setIfInBounds_toArray, List.set_cons_zero, List.set_cons_succ]
            have obY2 := obY1.kept grow8 (own_far obY1 oaY1 (by decide))
            have oaY2 := own8
            have hb12Y2 := blk_grown hb12Y1 grow8 (by intro he; exact (IsT.ne (own_isT oaY1 he).1 ⟨_, hb12Y1⟩ (by decide)) rfl)
            have hlY2 : Below W.heap.size W Y2 := hlY1.grown grow8 hlY1.size (fun g hg => by have := (own_isT oaY1 hg).2; omega)
            have hzY2 : W.heap.size + 2 ≤ Y2.heap.size := Nat.le_trans hzY1 grow8.size
            clear hHeld
            have hHeld := hHeld2
            clear hHeld2
            refine Tail.take (i := 14) (v := ?v14n13) rfl (by kernel_rfl) (by kernel_rfl) (by kernel_rfl) (by kernel_rfl) (by kernel_rfl) (fun _ _ _ h => h) (Or.inl ⟨by rfl, ?hy14n13⟩) (by assumption) ?rest14n13
            case hy14n13 => (intro w1 hS; obtain ⟨s1, s2, s3⟩ := hS; have x1 := s1.cell (i := 1) rfl; have y1 := s2.cell (i := 1) rfl; have p0 := s3.cell (i := 0) rfl; have p1 := s3.cell (i := 1) rfl; go_simp <;> with_reducible rfl)
            try simp only [Act.put, List.setIfInBounds_toArray, List.set_cons_zero, List.set_cons_succ]
            refine Tail.ready (rs := [13]) (by kernel_rfl) (by simp) ?_
            refine Tail.AllReadyL.cons rfl (fun K hK => ?_) Tail.AllReadyL.nil
            refine step_app2 rfl (.tmp 87) (.tmp 89) 29 rfl (W.heap.size + 2) 35 i2 (.agg #[.int .i64 0, .int .i64 0]) 2 16 Try.underlying29 hi2 iz2 iy2 ib2 rfl (by decide) vb j (ps.flatMap (ptc .i64)) rfl obY2 ⟨X.heap.size, 0, none⟩ 1 1 [.int .i64 px, .int .i64 py] rfl rfl (two_cells hb12Y2) (two_ints px py) (by unfold maxLen; omega) (by omega) hzY2 ?_
            intro v13 Y3 own13 grow13 nil13 _
            refine hK.out _ _ ⟨blk_grown hHeld.1 grow13 (own_ne obY2 (.inl (by omega))), blk_grown hHeld.2.1 grow13 (own_ne obY2 (.inl (by omega))), blk_grown hHeld.2.2 grow13 (by first | exact own_ne (own0ob) (.inr (Nat.le_refl _)))⟩ (fun hHeld2 => ?_)
            clear hK K
            try simp only [Act.put, List.setIfInBounds_toArray, List.set_cons_zero, List.set_cons_succ]
            have oaY3 := oaY2.kept grow13 (own_far oaY2 obY2 (by decide))
            have obY3 := own13
            have hlY3 : Below W.heap.size W Y3 := hlY2.grown grow13 hlY2.size (fun g hg => by have := (own_isT obY2 hg).2; omega)
            have hzY3 : W.heap.size + 2 ≤ Y3.heap.size := Nat.le_trans hzY2 grow13.size
            clear hHeld
            have hHeld := hHeld2
            clear hHeld2
            obtain ⟨r1, r2, r3⟩ := hHeld
            have x1 := r1.cell (i := 1) rfl
            have y1 := r2.cell (i := 1) rfl
            have xf := r1.frozen
            have yf := r2.frozen
            have HX1 := Lib.hid r1
            have HY1 := Lib.hid r2
            have HOA1 := Lib.hid oaY3
            have HOB1 := Lib.hid obY3
            have HL1 := Lib.hid hlY3
            have hn1 : ¬ v8 = .slice none 0 0 := fun h => by have h2 := (nil8.1 h).2; omega
            have hn2 : ¬ v13 = .slice none 0 0 := fun h => by have h2 := (nil13.1 h).2; omega
            obtain ⟨g8, c8, hv8, _, _, _, _⟩ := open_row oaY3 hn1
            obtain ⟨g13, c13, hv13, _, _, _, _⟩ := open_row obY3 hn2
            clear r1 r2 r3
            subst hv8 hv13
            refine Tail.ready (rs := [15]) (by kernel_rfl) (by simp) (Tail.AllReadyL.last rfl (by rfl) (fun K hK => ?_) Tail.AllReadyL.nil)
            go_simp
            refine hK.out _ _ ?_
            clear hK K
            try simp only [Act.put, List.setIfInBounds_toArray, List.set_cons_zero, List.set_cons_succ]
            refine Tail.ready (rs := [16]) (by kernel_rfl) (by simp) (Tail.AllReadyL.last rfl (by rfl) (fun K hK => ?_) Tail.AllReadyL.nil)
            go_simp
            refine hK.out _ _ ?_
            clear hK K
            try simp only [Act.put, List.setIfInBounds_toArray, List.set_cons_zero, List.set_cons_succ]
            refine Tail.ready (rs := [17]) (by kernel_rfl) (by simp) (Tail.AllReadyL.last rfl (by rfl) (fun K hK => ?_) Tail.AllReadyL.nil)
            go_simp
            refine hK.out _ _ ?_
            clear hK K
            try simp only [Act.put, List.setIfInBounds_toArray, List.set_cons_zero, List.set_cons_succ]
            refine Tail.done (by kernel_rfl) ?_ _
            go_wp2
            go_roundw
            case rel =>
              refine ⟨j + 1, q' + 2, ps ++ [(px, py)], _, _, by omega, by go_num, by go_num, by omega, by rw [List.length_append, hpl]; rfl, fun p hp => ?_, (HX1.out.set_ 1 _).other (by omega), (HY1.out.other (by omega)).set_ 1 _, ?_, ?_, ?_, ?_, (HL1.out.setCell (p := ⟨W.heap.size, 1, none⟩) (Nat.le_refl _) _).setCell (p := ⟨W.heap.size + 1, 1, none⟩) (by simp) _⟩
              · rcases List.mem_append.1 hp with h | h
                · exact HPB.out p h
                · simp at h; subst h; exact ⟨bx, by'⟩
              · rw [List.flatMap_append]; exact own_set (own_set HOA1.out (by simp) _) (by simp) _
              · rw [List.flatMap_append]; exact own_set (own_set HOB1.out (by simp) _) (by simp) _
              · simp
              · simp
            case measure => simp [intOf]; omega
          · obtain rfl : j = C := by omega
            have HX := Lib.hid hx
            have HY := Lib.hid hy
            have HOA := Lib.hid hoa
            have HOB := Lib.hid hob2
            have HPB := Lib.hid hpb
            have HNN := Lib.hid (And.intro hna hnb2)
            have HBE := Lib.hid hbe
            clear hx hy hoa hob2 hpb hna hnb2 hbe
            have hj1 : 0 < j := by rw [HC.out]; unfold cnt; split; omega; split <;> omega
            obtain ⟨ga, ca, hva, _, _, _, _⟩ := open_row HOA.out (fun h => by have := HNN.out.1.1 h; omega)
            obtain ⟨gb, cb, hvb, _, _, _, _⟩ := open_row HOB.out (fun h => by have := HNN.out.2.1 h; omega)
            subst hva hvb
            have paX : Pts wr w.heap.size ga 36 ((op, ps) : Sg).2 := Pts.of_own HOA.out (by have := HBL.out.size; omega)
            have pbX : Pts wr w.heap.size gb 35 ((op, ps) : Sg).2 := Pts.of_own HOB.out (by have := HBL.out.size; omega)
            have saX := HA.out.below HBE.out
            have sbX := HB.out.below HBE.out
            have na0 : u5.ownBlock ≠ some W.heap.size := fun h => by have := (HA.out.ge h).1.lt; omega
            have na1 : u5.ownBlock ≠ some (W.heap.size + 1) := fun h => by have := (HA.out.ge h).1.lt; omega
            have nb0 : u6.ownBlock ≠ some W.heap.size := fun h => by have := (HB.out.ge h).1.lt; omega
            have nb1 : u6.ownBlock ≠ some (W.heap.size + 1) := fun h => by have := (HB.out.ge h).1.lt; omega
            have hlX : Below w.heap.size w wr := HBL.out.trans (HBE.out.mono HBL.out.size)
            have hzX : w.heap.size ≤ wr.heap.size := hlX.size
            have hx := HX.out
            have hy := HY.out
            clear HX HY HOA HOB HNN
            go_wp2_with fail
            refine Tail.start (S := (fun w1 => Blk W.heap.size 28 [.int .i64 op, .slice (some ⟨ga, 0, none⟩) j ca] w1 ∧ Blk (W.heap.size + 1) 31 [.int .i64 op, .slice (some ⟨gb, 0, none⟩) j cb] w1)) (tl := []) (by kernel_rfl) ⟨hx, hy⟩ (fun hHeld => ?_)
            obtain ⟨X, hX⟩ : ∃ X, X = wr.drew := ⟨_, rfl⟩
            rw [← hX] at hHeld
            rw [← hX]
            replace paX : Pts X w.heap.size ga 36 ((op, ps) : Sg).2 := by rw [hX]; exact paX
            replace pbX : Pts X w.heap.size gb 35 ((op, ps) : Sg).2 := by rw [hX]; exact pbX
            replace saX : StepRow X w.heap.size 28 36 u5 S := by rw [hX]; exact saX
            replace sbX : StepRow X w.heap.size 31 35 u6 S := by rw [hX]; exact sbX
            replace hlX : Below w.heap.size w X := by rw [hX]; exact Below.drew hlX
            replace hzX : w.heap.size ≤ X.heap.size := by rw [hX]; exact hzX
            clear hX hx hy
            refine Tail.take (i := 0) (v := ?v0n101) rfl (by kernel_rfl) (by kernel_rfl) (by kernel_rfl) (by kernel_rfl) (by kernel_rfl) (fun _ _ _ h => h) (Or.inl ⟨by rfl, ?hy0n101⟩) (by assumption) ?rest0n101
            case hy0n101 => (intro w1 hS; obtain ⟨s1, s2⟩ := hS; have x0 := s1.cell (i := 0) rfl; have x1 := s1.cell (i := 1) rfl; have y0 := s2.cell (i := 0) rfl; have y1 := s2.cell (i := 1) rfl; go_simp <;> with_reducible rfl)
            try simp only [Act.put, List.setIfInBounds_toArray, List.set_cons_zero, List.set_cons_succ]
            refine Tail.take (i := 1) (v := ?v1n102) rfl (by kernel_rfl) (by kernel_rfl) (by kernel_rfl) (by kernel_rfl) (by kernel_rfl) (fun _ _ _ h => h) (Or.inl ⟨by rfl, ?hy1n102⟩) (by assumption) ?rest1n102
            case hy1n102 => (intro w1 hS; obtain ⟨s1, s2⟩ := hS; have x0 := s1.cell (i := 0) rfl; have x1 := s1.cell (i := 1) rfl; have y0 := s2.cell (i := 0) rfl; have y1 := s2.cell (i := 1) rfl; go_simp <;> with_reducible rfl)
            try simp only [Act.put, List.setIfInBounds_toArray, List.set_cons_zero, List.set_cons_succ]
            refine Tail.take (i := 4) (v := ?v4n103) rfl (by kernel_rfl) (by kernel_rfl) (by kernel_rfl) (by kernel_rfl) (by kernel_rfl) (fun _ _ _ h => h) (Or.inl ⟨by rfl, ?hy4n103⟩) (by assumption) ?rest4n103
            case hy4n103 => (intro w1 hS; obtain ⟨s1, s2⟩ := hS; have x0 := s1.cell (i := 0) rfl; have x1 := s1.cell (i := 1) rfl; have y0 := s2.cell (i := 0) rfl; have y1 := s2.cell (i := 1) rfl; go_simp <;> with_reducible rfl)
            try simp only [Act.put, List.setIfInBounds_toArray, List.set_cons_zero, List.set_cons_succ]
            refine Tail.take (i := 5) (v := ?v5n104) rfl (by kernel_rfl) (by kernel_rfl) (by kernel_rfl) (by kernel_rfl) (by kernel_rfl) (fun _ _ _ h => h) (Or.inl ⟨by rfl, ?hy5n104⟩) (by assumption) ?rest5n104
            case hy5n104 => (intro w1 hS; obtain ⟨s1, s2⟩ := hS; have x0 := s1.cell (i := 0) rfl; have x1 := s1.cell (i := 1) rfl; have y0 := s2.cell (i := 0) rfl; have y1 := s2.cell (i := 1) rfl; go_simp <;> with_reducible rfl)
            try simp only [Act.put, List.setIfInBounds_toArray, List.set_cons_zero, List.set_cons_succ]
            refine Tail.ready (rs := [2, 6]) (by kernel_rfl) (by simp) ?_
            refine Tail.AllReadyL.cons rfl (fun K hK => ?_) ?_
            · skip
              go_simp
              refine hK.out _ _ ⟨hHeld.1.keep (bel_made _ _ _), hHeld.2.keep (bel_made _ _ _)⟩ (fun hHeld2 => ?_)
              clear hK K
              obtain ⟨Y0, hY⟩ : ∃ Y0, Y0 = X.alloc (.cells #[.int .i64 op, .slice (some ⟨ga, 0, none⟩) j ca] 28) := ⟨_, rfl⟩
              have hb2 : Blk X.heap.size 28 [.int .i64 op, .slice (some ⟨ga, 0, none⟩) j ca] Y0 := by rw [hY]; exact Blk.new_ X _ _
              have hdY0 : Below X.heap.size X Y0 := by rw [hY]; exact bel_made X _ _
              rw [← hY] at hHeld2
              rw [← hY]
              try simp only [Act.put, List.setIfInBounds_toArray, List.set_cons_zero, List.set_cons_succ]
              have saY0 := saX.below hdY0
              have sbY0 := sbX.below hdY0
              have paY0 := paX.below hdY0
              have pbY0 := pbX.below hdY0
              have hlY0 := hlX.trans (hdY0.mono hlX.size)
              have hzY0 : w.heap.size ≤ Y0.heap.size := Nat.le_trans hzX hdY0.size
              clear hHeld hY
              have hHeld := hHeld2
              clear hHeld2
              refine Tail.ready (rs := [3, 6]) (by kernel_rfl) (by simp) ?_
              refine Tail.AllReadyL.cons rfl (fun K hK => ?_) ?_
              · skip
                obtain ⟨cs3, hro3, hrn3, hri3⟩ := saY0
                refine step_app2 rfl (.tmp 94) (.tmp 96) 24 rfl w.heap.size 28 i3 (.agg #[.int .i64 0, .slice none 0 0]) 2 32 Try.underlying24 hi3 iz3 iy3 ib3 rfl (by decide) u5 S.length cs3 rfl hro3 ⟨X.heap.size, 0, none⟩ 1 1 [.int .i64 op, .slice (some ⟨ga, 0, none⟩) j ca] rfl rfl (two_cells hb2) (two_any _ _ _ _) (by unfold maxLen; omega) (by omega) hzY0 ?_
                intro v3 Y1 own3 grow3 nil3 _
                refine hK.out _ _ ⟨blk_grown hHeld.1 grow3 na0, blk_grown hHeld.2 grow3 na1⟩ (fun hHeld2 => ?_)
                clear hK K
                try simp only [Act.put, List.setIfInBounds_toArray, List.set_cons_zero, List.set_cons_succ]
                have hnn3 : ¬ v3 = .slice none 0 0 := fun h => hrn3 (nil3.1 h).1
                have saY1 := StepRow.push (s := (op, ps)) (c := ca) (by decide) hro3 hri3 paY0 grow3 hnn3 (by rw [show ((op, ps) : Sg).2.length = j from hpl]; exact own3)
                have sbY1 := sbY0.grown grow3 (fun b hb => (own_isT hro3 hb).1) (by decide) (by decide)
                have paY1 := paY0.grown grow3 (fun b hb => (own_isT hro3 hb).1) (by decide)
                have pbY1 := pbY0.grown grow3 (fun b hb => (own_isT hro3 hb).1) (by decide)
                have hlY1 : Below w.heap.size w Y1 := hlY0.grown grow3 hlY0.size (fun g hg => (own_isT hro3 hg).2)
                have hzY1 : w.heap.size ≤ Y1.heap.size := Nat.le_trans hzY0 grow3.size
                clear hHeld
                have hHeld := hHeld2
                clear hHeld2 own3 grow3 nil3 hro3 hri3
                refine Tail.ready (rs := [6]) (by kernel_rfl) (by simp) ?_
                refine Tail.AllReadyL.cons rfl (fun K hK => ?_) Tail.AllReadyL.nil
                go_simp
                refine hK.out _ _ ⟨hHeld.1.keep (bel_made _ _ _), hHeld.2.keep (bel_made _ _ _)⟩ (fun hHeld2 => ?_)
                clear hK K
                obtain ⟨Y2, hY⟩ : ∃ Y2, Y2 = Y1.alloc (.cells #[.int .i64 op, .slice (some ⟨gb, 0, none⟩) j cb] 31) := ⟨_, rfl⟩
                have hb6 : Blk Y1.heap.size 31 [.int .i64 op, .slice (some ⟨gb, 0, none⟩) j cb] Y2 := by rw [hY]; exact Blk.new_ Y1 _ _
                have hdY2 : Below Y1.heap.size Y1 Y2 := by rw [hY]; exact bel_made Y1 _ _
                rw [← hY] at hHeld2
                rw [← hY]
                try simp only [Act.put, List.setIfInBounds_toArray, List.set_cons_zero, List.set_cons_succ]
                have saY2 := saY1.below hdY2
                have sbY2 := sbY1.below hdY2
                have paY2 := paY1.below hdY2
                have pbY2 := pbY1.below hdY2
                have hlY2 := hlY1.trans (hdY2.mono hlY1.size)
                have hzY2 : w.heap.size ≤ Y2.heap.size := Nat.le_trans hzY1 hdY2.size
                clear hHeld hY
                have hHeld := hHeld2
                clear hHeld2
                refine Tail.ready (rs := [7]) (by kernel_rfl) (by simp) ?_
                refine Tail.AllReadyL.cons rfl (fun K hK => ?_) Tail.AllReadyL.nil
                obtain ⟨cs7, hro7, hrn7, hri7⟩ := sbY2
                refine step_app2 rfl (.tmp 98) (.tmp 100) 25 rfl w.heap.size 31 i4 (.agg #[.int .i64 0, .slice none 0 0]) 2 32 Try.underlying25 hi4 iz4 iy4 ib4 rfl (by decide) u6 S.length cs7 rfl hro7 ⟨Y1.heap.size, 0, none⟩ 1 1 [.int .i64 op, .slice (some ⟨gb, 0, none⟩) j cb] rfl rfl (two_cells hb6) (two_any _ _ _ _) (by unfold maxLen; omega) (by omega) hzY2 ?_
                intro v7 Y3 own7 grow7 nil7 _
                refine hK.out _ _ ⟨blk_grown hHeld.1 grow7 nb0, blk_grown hHeld.2 grow7 nb1⟩ (fun hHeld2 => ?_)
                clear hK K
                try simp only [Act.put, List.setIfInBounds_toArray, List.set_cons_zero, List.set_cons_succ]
                have hnn7 : ¬ v7 = .slice none 0 0 := fun h => hrn7 (nil7.1 h).1
                have sbY3 := StepRow.push (s := (op, ps)) (c := cb) (by decide) hro7 hri7 pbY2 grow7 hnn7 (by rw [show ((op, ps) : Sg).2.length = j from hpl]; exact own7)
                have saY3 := saY2.grown grow7 (fun b hb => (own_isT hro7 hb).1) (by decide) (by decide)
                have paY3 := paY2.grown grow7 (fun b hb => (own_isT hro7 hb).1) (by decide)
                have pbY3 := pbY2.grown grow7 (fun b hb => (own_isT hro7 hb).1) (by decide)
                have hlY3 : Below w.heap.size w Y3 := hlY2.grown grow7 hlY2.size (fun g hg => (own_isT hro7 hg).2)
                have hzY3 : w.heap.size ≤ Y3.heap.size := Nat.le_trans hzY2 grow7.size
                clear hHeld
                have hHeld := hHeld2
                clear hHeld2 own7 grow7 nil7 hro7 hri7
                refine Tail.take (i := 8) (v := ?v8n105) rfl (by kernel_rfl) (by kernel_rfl) (by kernel_rfl) (by kernel_rfl) (by kernel_rfl) (fun _ _ _ h => h) (Or.inl ⟨by rfl, ?hy8n105⟩) (by assumption) ?rest8n105
                case hy8n105 => (intro w1 hS; obtain ⟨s1, s2⟩ := hS; have x0 := s1.cell (i := 0) rfl; have x1 := s1.cell (i := 1) rfl; have y0 := s2.cell (i := 0) rfl; have y1 := s2.cell (i := 1) rfl; go_simp <;> with_reducible rfl)
                try simp only [Act.put, List.setIfInBounds_toArray, List.set_cons_zero, List.set_cons_succ]
                refine Tail.take (i := 9) (v := ?v9n106) rfl (by kernel_rfl) (by kernel_rfl) (by kernel_rfl) (by kernel_rfl) (by kernel_rfl) (fun _ _ _ h => h) (Or.inl ⟨by rfl, ?hy9n106⟩) (by assumption) ?rest9n106
                case hy9n106 => (intro w1 hS; obtain ⟨s1, s2⟩ := hS; have x0 := s1.cell (i := 0) rfl; have x1 := s1.cell (i := 1) rfl; have y0 := s2.cell (i := 0) rfl; have y1 := s2.cell (i := 1) rfl; go_simp <;> with_reducible rfl)
                try simp only [Act.put, List.setIfInBounds_toArray, List.set_cons_zero, List.set_cons_succ]
                have HE := Lib.hid (And.intro saY3 (And.intro sbY3 hlY3))
                clear hHeld saY3 sbY3 hlY3
                refine Tail.done (by kernel_rfl) ?_ _
                go_wp2
                go_roundw
                case rel =>
                  refine ⟨k + 1, S ++ [(op, ps)], q', by omega, by go_num, by rw [List.length_append, hSl]; rfl, fun s hs => ?_, rfl, by omega, HE.out.1, HE.out.2.1, HE.out.2.2⟩
                  rcases List.mem_append.1 hs with h | h
                  · exact HSK.out s h
                  · simp at h; subst h; exact ⟨hop4, by rw [← HC.out]; exact hpl, HPB.out⟩
                case measure => simp [intOf]; omega
              refine Tail.AllReadyL.cons rfl (fun K hK => ?_) Tail.AllReadyL.nil
              go_simp
              refine hK.out _ _ ⟨hHeld.1.keep (bel_made _ _ _), hHeld.2.keep (bel_made _ _ _)⟩ (fun hHeld2 => ?_)
              clear hK K
              obtain ⟨Y1, hY⟩ : ∃ Y1, Y1 = Y0.alloc (.cells #[.int .i64 op, .slice (some ⟨gb, 0, none⟩) j cb] 31) := ⟨_, rfl⟩
              have hb6 : Blk Y0.heap.size 31 [.int .i64 op, .slice (some ⟨gb, 0, none⟩) j cb] Y1 := by rw [hY]; exact Blk.new_ Y0 _ _
              have hdY1 : Below Y0.heap.size Y0 Y1 := by rw [hY]; exact bel_made Y0 _ _
              rw [← hY] at hHeld2
              rw [← hY]
              try simp only [Act.put, List.setIfInBounds_toArray, List.set_cons_zero, List.set_cons_succ]
              have hb2Y1 := hb2.keep hdY1
              have saY1 := saY0.below hdY1
              have sbY1 := sbY0.below hdY1
              have paY1 := paY0.below hdY1
              have pbY1 := pbY0.below hdY1
              have hlY1 := hlY0.trans (hdY1.mono hlY0.size)
              have hzY1 : w.heap.size ≤ Y1.heap.size := Nat.le_trans hzY0 hdY1.size
              clear hHeld hY
              have hHeld := hHeld2
              clear hHeld2
              refine Tail.ready (rs := [3]) (by kernel_rfl) (by simp) ?_
              refine Tail.AllReadyL.cons rfl (fun K hK => ?_) Tail.AllReadyL.nil
              obtain ⟨cs3, hro3, hrn3, hri3⟩ := saY1
              refine step_app2 rfl (.tmp 94) (.tmp 96) 24 rfl w.heap.size 28 i3 (.agg #[.int .i64 0, .slice none 0 0]) 2 32 Try.underlying24 hi3 iz3 iy3 ib3 rfl (by decide) u5 S.length cs3 rfl hro3 ⟨X.heap.size, 0, none⟩ 1 1 [.int .i64 op, .slice (some ⟨ga, 0, none⟩) j ca] rfl rfl (two_cells hb2Y1) (two_any _ _ _ _) (by unfold maxLen; omega) (by omega) hzY1 ?_
              intro v3 Y2 own3 grow3 nil3 _
              refine hK.out _ _ ⟨blk_grown hHeld.1 grow3 na0, blk_grown hHeld.2 grow3 na1⟩ (fun hHeld2 => ?_)
              clear hK K
              try simp only [Act.put, List.setIfInBounds_toArray, List.set_cons_zero, List.set_cons_succ]
              have hnn3 : ¬ v3 = .slice none 0 0 := fun h => hrn3 (nil3.1 h).1
              have saY2 := StepRow.push (s := (op, ps)) (c := ca) (by decide) hro3 hri3 paY1 grow3 hnn3 (by rw [show ((op, ps) : Sg).2.length = j from hpl]; exact own3)
              have sbY2 := sbY1.grown grow3 (fun b hb => (own_isT hro3 hb).1) (by decide) (by decide)
              have paY2 := paY1.grown grow3 (fun b hb => (own_isT hro3 hb).1) (by decide)
              have pbY2 := pbY1.grown grow3 (fun b hb => (own_isT hro3 hb).1) (by decide)
              have hb6Y2 := blk_grown hb6 grow3 (by intro he; exact (IsT.ne (own_isT hro3 he).1 ⟨_, hb6⟩ (by decide)) rfl)
              have hlY2 : Below w.heap.size w Y2 := hlY1.grown grow3 hlY1.size (fun g hg => (own_isT hro3 hg).2)
              have hzY2 : w.heap.size ≤ Y2.heap.size := Nat.le_trans hzY1 grow3.size
              clear hHeld
              have hHeld := hHeld2
              clear hHeld2 own3 grow3 nil3 hro3 hri3
              refine Tail.ready (rs := [7]) (by kernel_rfl) (by simp) ?_
              refine Tail.AllReadyL.cons rfl (fun K hK => ?_) Tail.AllReadyL.nil
              obtain ⟨cs7, hro7, hrn7, hri7⟩ := sbY2
              refine step_app2 rfl (.tmp 98) (.tmp 100) 25 rfl w.heap.size 31 i4 (.agg #[.int .i64 0, .slice none 0 0]) 2 32 Try.underlying25 hi4 iz4 iy4 ib4 rfl (by decide) u6 S.length cs7 rfl hro7 ⟨Y0.heap.size, 0, none⟩ 1 1 [.int .i64 op, .slice (some ⟨gb, 0, none⟩) j cb] rfl rfl (two_cells hb6Y2) (two_any _ _ _ _) (by unfold maxLen; omega) (by omega) hzY2 ?_
              intro v7 Y3 own7 grow7 nil7 _
              refine hK.out _ _ ⟨blk_grown hHeld.1 grow7 nb0, blk_grown hHeld.2 grow7 nb1⟩ (fun hHeld2 => ?_)
              clear hK K
              try simp only [Act.put, List.setIfInBounds_toArray, List.set_cons_zero, List.set_cons_succ]
              have hnn7 : ¬ v7 = .slice none 0 0 := fun h => hrn7 (nil7.1 h).1
              have sbY3 := StepRow.push (s := (op, ps)) (c := cb) (by decide) hro7 hri7 pbY2 grow7 hnn7 (by rw [show ((op, ps) : Sg).2.length = j from hpl]; exact own7)
              have saY3 := saY2.grown grow7 (fun b hb => (own_isT hro7 hb).1) (by decide) (by decide)
              have paY3 := paY2.grown grow7 (fun b hb => (own_isT hro7 hb).1) (by decide)
              have pbY3 := pbY2.grown grow7 (fun b hb => (own_isT hro7 hb).1) (by decide)
              have hlY3 : Below w.heap.size w Y3 := hlY2.grown grow7 hlY2.size (fun g hg => (own_isT hro7 hg).2)
              have hzY3 : w.heap.size ≤ Y3.heap.size := Nat.le_trans hzY2 grow7.size
              clear hHeld
              have hHeld := hHeld2
              clear hHeld2 own7 grow7 nil7 hro7 hri7
              refine Tail.take (i := 8) (v := ?v8n107) rfl (by kernel_rfl) (by kernel_rfl) (by kernel_rfl) (by kernel_rfl) (by kernel_rfl) (fun _ _ _ h => h) (Or.inl ⟨by rfl, ?hy8n107⟩) (by assumption) ?rest8n107
              case hy8n107 => (intro w1 hS; obtain ⟨s1, s2⟩ := hS; have x0 := s1.cell (i := 0) rfl; have x1 := s1.cell (i := 1) rfl; have y0 := s2.cell (i := 0) rfl; have y1 := s2.cell (i := 1) rfl; go_simp <;> with_reducible rfl)
              try simp only [Act.put, List.setIfInBounds_toArray, List.set_cons_zero, List.set_cons_succ]
              refine Tail.take (i := 9) (v := ?v9n108) rfl (by kernel_rfl) (by kernel_rfl) (by kernel_rfl) (by kernel_rfl) (by kernel_rfl) (fun _ _ _ h => h) (Or.inl ⟨by rfl, ?hy9n108⟩) (by assumption) ?rest9n108
              case hy9n108 => (intro w1 hS; obtain ⟨s1, s2⟩ := hS; have x0 := s1.cell (i := 0) rfl; have x1 := s1.cell (i := 1) rfl; have y0 := s2.cell (i := 0) rfl; have y1 := s2.cell (i := 1) rfl; go_simp <;> with_reducible rfl)
              try simp only [Act.put, List.setIfInBounds_toArray, List.set_cons_zero, List.set_cons_succ]
              have HE := Lib.hid (And.intro saY3 (And.intro sbY3 hlY3))
              clear hHeld saY3 sbY3 hlY3
              refine Tail.done (by kernel_rfl) ?_ _
              go_wp2
              go_roundw
              case rel =>
                refine ⟨k + 1, S ++ [(op, ps)], q', by omega, by go_num, by rw [List.length_append, hSl]; rfl, fun s hs => ?_, rfl, by omega, HE.out.1, HE.out.2.1, HE.out.2.2⟩
                rcases List.mem_append.1 hs with h | h
                · exact HSK.out s h
                · simp at h; subst h; exact ⟨hop4, by rw [← HC.out]; exact hpl, HPB.out⟩
              case measure => simp [intOf]; omega
            refine Tail.AllReadyL.cons rfl (fun K hK => ?_) Tail.AllReadyL.nil
            go_simp
            refine hK.out _ _ ⟨hHeld.1.keep (bel_made _ _ _), hHeld.2.keep (bel_made _ _ _)⟩ (fun hHeld2 => ?_)
            clear hK K
            obtain ⟨Y0, hY⟩ : ∃ Y0, Y0 = X.alloc (.cells #[.int .i64 op, .slice (some ⟨gb, 0, none⟩) j cb] 31) := ⟨_, rfl⟩
            have hb6 : Blk X.heap.size 31 [.int .i64 op, .slice (some ⟨gb, 0, none⟩) j cb] Y0 := by rw [hY]; exact Blk.new_ X _ _
            have hdY0 : Below X.heap.size X Y0 := by rw [hY]; exact bel_made X _ _
            rw [← hY] at hHeld2
            rw [← hY]
            try simp only [Act.put, List.setIfInBounds_toArray, List.set_cons_zero, List.set_cons_succ]
            have saY0 := saX.below hdY0
            have sbY0 := sbX.below hdY0
            have paY0 := paX.below hdY0
            have pbY0 := pbX.below hdY0
            have hlY0 := hlX.trans (hdY0.mono hlX.size)
            have hzY0 : w.heap.size ≤ Y0.heap.size := Nat.le_trans hzX hdY0.size
            clear hHeld hY
            have hHeld := hHeld2
            clear hHeld2
            refine Tail.ready (rs := [2]) (by kernel_rfl) (by simp) ?_
            refine Tail.AllReadyL.cons rfl (fun K hK => ?_) Tail.AllReadyL.nil
            go_simp
            refine hK.out _ _ ⟨hHeld.1.keep (bel_made _ _ _), hHeld.2.keep (bel_made _ _ _)⟩ (fun hHeld2 => ?_)
            clear hK K
            obtain ⟨Y1, hY⟩ : ∃ Y1, Y1 = Y0.alloc (.cells #[.int .i64 op, .slice (some ⟨ga, 0, none⟩) j ca] 28) := ⟨_, rfl⟩
            have hb2 : Blk Y0.heap.size 28 [.int .i64 op, .slice (some ⟨ga, 0, none⟩) j ca] Y1 := by rw [hY]; exact Blk.new_ Y0 _ _
            have hdY1 : Below Y0.heap.size Y0 Y1 := by rw [hY]; exact bel_made Y0 _ _
            rw [← hY] at hHeld2
            rw [← hY]
            try simp only [Act.put, List.setIfInBounds_toArray, List.set_cons_zero, List.set_cons_succ]
            have hb6Y1 := hb6.keep hdY1
            have saY1 := saY0.below hdY1
            have sbY1 := sbY0.below hdY1
            have paY1 := paY0.below hdY1
            have pbY1 := pbY0.below hdY1
            have hlY1 := hlY0.trans (hdY1.mono hlY0.size)
            have hzY1 : w.heap.size ≤ Y1.heap.size := Nat.le_trans hzY0 hdY1.size
            clear hHeld hY
            have hHeld := hHeld2
            clear hHeld2
            refine Tail.ready (rs := [3]) (by kernel_rfl) (by simp) ?_
            refine Tail.AllReadyL.cons rfl (fun K hK => ?_) Tail.AllReadyL.nil
            obtain ⟨cs3, hro3, hrn3, hri3⟩ := saY1
            refine step_app2 rfl (.tmp 94) (.tmp 96) 24 rfl w.heap.size 28 i3 (.agg #[.int .i64 0, .slice none 0 0]) 2 32 Try.underlying24 hi3 iz3 iy3 ib3 rfl (by decide) u5 S.length cs3 rfl hro3 ⟨Y0.heap.size, 0, none⟩ 1 1 [.int .i64 op, .slice (some ⟨ga, 0, none⟩) j ca] rfl rfl (two_cells hb2) (two_any _ _ _ _) (by unfold maxLen; omega) (by omega) hzY1 ?_
            intro v3 Y2 own3 grow3 nil3 _
            refine hK.out _ _ ⟨blk_grown hHeld.1 grow3 na0, blk_grown hHeld.2 grow3 na1⟩ (fun hHeld2 => ?_)
            clear hK K
            try simp only [Act.put, List.setIfInBounds_toArray, List.set_cons_zero, List.set_cons_succ]
            have hnn3 : ¬ v3 = .slice none 0 0 := fun h => hrn3 (nil3.1 h).1
            have saY2 := StepRow.push (s := (op, ps)) (c := ca) (by decide) hro3 hri3 paY1 grow3 hnn3 (by rw [show ((op, ps) : Sg).2.length = j from hpl]; exact own3)
            have sbY2 := sbY1.grown grow3 (fun b hb => (own_isT hro3 hb).1) (by decide) (by decide)
            have paY2 := paY1.grown grow3 (fun b hb => (own_isT hro3 hb).1) (by decide)
            have pbY2 := pbY1.grown grow3 (fun b hb => (own_isT hro3 hb).1) (by decide)
            have hb6Y2 := blk_grown hb6Y1 grow3 (by intro he; exact (IsT.ne (own_isT hro3 he).1 ⟨_, hb6Y1⟩ (by decide)) rfl)
            have hlY2 : Below w.heap.size w Y2 := hlY1.grown grow3 hlY1.size (fun g hg => (own_isT hro3 hg).2)
            have hzY2 : w.heap.size ≤ Y2.heap.size := Nat.le_trans hzY1 grow3.size
            clear hHeld
            have hHeld := hHeld2
            clear hHeld2 own3 grow3 nil3 hro3 hri3
            refine Tail.ready (rs := [7]) (by kernel_rfl) (by simp) ?_
            refine Tail.AllReadyL.cons rfl (fun K hK => ?_) Tail.AllReadyL.nil
            obtain ⟨cs7, hro7, hrn7, hri7⟩ := sbY2
            refine step_app2 rfl (.tmp 98) (.tmp 100) 25 rfl w.heap.size 31 i4 (.agg #[.int .i64 0, .slice none 0 0]) 2 32 Try.underlying25 hi4 iz4 iy4 ib4 rfl (by decide) u6 S.length cs7 rfl hro7 ⟨X.heap.size, 0, none⟩ 1 1 [.int .i64 op, .slice (some ⟨gb, 0, none⟩) j cb] rfl rfl (two_cells hb6Y2) (two_any _ _ _ _) (by unfold maxLen; omega) (by omega) hzY2 ?_
            intro v7 Y3 own7 grow7 nil7 _
            refine hK.out _ _ ⟨blk_grown hHeld.1 grow7 nb0, blk_grown hHeld.2 grow7 nb1⟩ (fun hHeld2 => ?_)
            clear hK K
            try simp only [Act.put, List.setIfInBounds_toArray, List.set_cons_zero, List.set_cons_succ]
            have hnn7 : ¬ v7 = .slice none 0 0 := fun h => hrn7 (nil7.1 h).1
            have sbY3 := StepRow.push (s := (op, ps)) (c := cb) (by decide) hro7 hri7 pbY2 grow7 hnn7 (by rw [show ((op, ps) : Sg).2.length = j from hpl]; exact own7)
            have saY3 := saY2.grown grow7 (fun b hb => (own_isT hro7 hb).1) (by decide) (by decide)
            have paY3 := paY2.grown grow7 (fun b hb => (own_isT hro7 hb).1) (by decide)
            have pbY3 := pbY2.grown grow7 (fun b hb => (own_isT hro7 hb).1) (by decide)
            have hlY3 : Below w.heap.size w Y3 := hlY2.grown grow7 hlY2.size (fun g hg => (own_isT hro7 hg).2)
            have hzY3 : w.heap.size ≤ Y3.heap.size := Nat.le_trans hzY2 grow7.size
            clear hHeld
            have hHeld := hHeld2
            clear hHeld2 own7 grow7 nil7 hro7 hri7
            refine Tail.take (i := 8) (v := ?v8n109) rfl (by kernel_rfl) (by kernel_rfl) (by kernel_rfl) (by kernel_rfl) (by kernel_rfl) (fun _ _ _ h => h) (Or.inl ⟨by rfl, ?hy8n109⟩) (by assumption) ?rest8n109
            case hy8n109 => (intro w1 hS; obtain ⟨s1, s2⟩ := hS; have x0 := s1.cell (i := 0) rfl; have x1 := s1.cell (i := 1) rfl; have y0 := s2.cell (i := 0) rfl; have y1 := s2.cell (i := 1) rfl; go_simp <;> with_reducible rfl)
            try simp only [Act.put, List.setIfInBounds_toArray, List.set_cons_zero, List.set_cons_succ]
            refine Tail.take (i := 9) (v := ?v9n110) rfl (by kernel_rfl) (by kernel_rfl) (by kernel_rfl) (by kernel_rfl) (by kernel_rfl) (fun _ _ _ h => h) (Or.inl ⟨by rfl, ?hy9n110⟩) (by assumption) ?rest9n110
            case hy9n110 => (intro w1 hS; obtain ⟨s1, s2⟩ := hS; have x0 := s1.cell (i := 0) rfl; have x1 := s1.cell (i := 1) rfl; have y0 := s2.cell (i := 0) rfl; have y1 := s2.cell (i := 1) rfl; go_simp <;> with_reducible rfl)
            try simp only [Act.put, List.setIfInBounds_toArray, List.set_cons_zero, List.set_cons_succ]
            have HE := Lib.hid (And.intro saY3 (And.intro sbY3 hlY3))
            clear hHeld saY3 sbY3 hlY3
            refine Tail.done (by kernel_rfl) ?_ _
            go_wp2
            go_roundw
            case rel =>
              refine ⟨k + 1, S ++ [(op, ps)], q', by omega, by go_num, by rw [List.length_append, hSl]; rfl, fun s hs => ?_, rfl, by omega, HE.out.1, HE.out.2.1, HE.out.2.2⟩
              rcases List.mem_append.1 hs with h | h
              · exact HSK.out s h
              · simp at h; subst h; exact ⟨hop4, by rw [← HC.out]; exact hpl, HPB.out⟩
            case measure => simp [intOf]; omega
    · obtain rfl : k = n := by omega
      have hn0 : S.length = k := hSl
      obtain ⟨ba, ca, hva, hla, hsa⟩ := hA.segs
      obtain ⟨bb, cb, hvb, hlb, hsb⟩ := hB.segs
      rw [hSl] at hva hvb
      subst hva hvb
      have HBX := Lib.hid (boxof_any (some ⟨bb, 0, none⟩) k cb S wr hSl.symm (by omega) hSk (fun _ => ⟨bb, rfl, hlb, hsb⟩))
      have HSX := Lib.hid (fun (W1 : World) (hb : Below wr.heap.size wr W1) => segbox_any (some ⟨ba, 0, none⟩) k ca S W1 hSl.symm (by omega) hSk (fun _ => ⟨ba, rfl, Nat.lt_of_lt_of_le hla hb.size, hsa.keep hb⟩))
      have HBL := Lib.hid hbel
      obtain ⟨a, ha⟩ : ∃ x, x = q0 (pts S) lx := ⟨_, rfl⟩
      obtain ⟨b, hb⟩ : ∃ x, x = q0 (pts S) ly := ⟨_, rfl⟩
      obtain ⟨c, hc⟩ : ∃ x, x = q0 (pts S) hx := ⟨_, rfl⟩
      obtain ⟨d, hd⟩ : ∃ x, x = q0 (pts S) hy := ⟨_, rfl⟩
      have hF : (box64 (pts S)).toArray = #[.int .i64 a, .int .i64 b, .int .i64 c, .int .i64 d] := by rw [box64, ← ha, ← hb, ← hc, ← hd]; rfl
      rw [hF] at HBX HSX
      clear hA hB hbel hSk hsa hsb ha hb hc hd hF
      go_wp2_with fail
      refine HBX.out.mono ?_
      rintro e w1 ⟨rfl, hb1⟩
      have HB1 := Lib.hid hb1
      clear hb1
      go_wp2_with fail
      have z := Blk.new_ w1 #[.int .i64 a, .int .i64 b, .int .i64 c, .int .i64 d] 38
      have z0 := z.cell (i := 0) rfl
      have z1 := z.cell (i := 1) rfl
      have z2 := z.cell (i := 2) rfl
      have z3 := z.cell (i := 3) rfl
      have hbU : Below wr.heap.size wr (w1.alloc (.cells #[.int .i64 a, .int .i64 b, .int .i64 c, .int .i64 d] 38)) := HB1.out.alloc HB1.out.size _
      go_region_held3 (fun w' => w'.cell? ⟨w1.heap.size, 0, none⟩ = some (.int .i64 a) ∧ w'.cell? ⟨w1.heap.size, 1, none⟩ = some (.int .i64 b) ∧ w'.cell? ⟨w1.heap.size, 2, none⟩ = some (.int .i64 c) ∧ w'.cell? ⟨w1.heap.size, 3, none⟩ = some (.int .i64 d))
        (first | (go_split_ands; with_reducible refine ⟨keep_cell hb rfl ?_, keep_cell hb rfl ?_, keep_cell hb rfl ?_, keep_cell hb rfl ?_⟩ <;> with_reducible assumption) | (go_split_ands; with_reducible refine ⟨keep_new ?_, keep_new ?_, keep_new ?_, keep_new ?_⟩ <;> with_reducible assumption) | (refine ⟨?_, ?_, ?_, ?_⟩ <;> go_simp))
        (first | (go_at_call 5; with_reducible refine (HSX.out _ (Below.drew hbU)).mono ?_; rintro e w2 ⟨rfl, hb⟩; have hbf := hb) | (go_at_call 5; with_reducible refine (one_any _).mono ?_; rintro e w3 ⟨rfl, hb⟩))
      all_goals
        have hA2 : Below w.heap.size w w2 := HBL.out.trans (((Below.drew hbU).trans (hbf.mono (by exact hbU.size))).mono HBL.out.size)
        have hsA := hA2.size
        have HFin := Lib.hid (((hA2.alloc hsA _).alloc (by simp; omega) _).trans (hb.mono (by simp; omega)))
        clear hb hbf hA2 hbU
        go_wp2
        go_ret
        exact ⟨rfl, HFin.out⟩

theorem src_of {k : IntKind} {w : World} {a : Option Addr} {n cap : Nat} {zs : List Int} (h : IsRow k w a n cap zs) (hn : 0 < n) : ∃ b off, a = some ⟨b, off, none⟩ ∧ b < w.heap.size ∧ At w b off (vals k (zs.take n)) := by
  have hr := Rd.of_ints h
  rcases a with _ | ⟨b, off, spot⟩
  · have := (hr.2.2 rfl).1
    omega
  · have hl := h.len
    obtain ⟨u, hu⟩ : ∃ u, (vals k (zs.take n))[0]? = some u := ⟨_, List.getElem?_eq_getElem (by rw [vals_len]; omega)⟩
    have hc := hr.2.1 _ rfl 0 u hu
    have hspot : spot = none := by simpa [Addr.add] using World.cell?_spot hc
    subst hspot
    refine ⟨b, off, rfl, World.block_lt_of_cell? w _ hc, fun j v hv => ?_⟩
    have := hr.2.1 _ rfl j v hv
    rwa [Addr.add_lit] at this

theorem row (a0 : Option Addr) (n cap0 : Nat) (zs : List Int) (a1 : Option Addr) (m cap1 : Nat) (ys : List Int) (w : World) (w0 : IsRow .u8 w a0 n cap0 zs) (w1 : IsRow .i16 w a1 m cap1 ys) :
    Calls Try.prog 3 #[.slice a0 n cap0, .slice a1 m cap1] w fun e w' => e = .returned (.bool true) ∧ Below w.heap.size w w' := by
  by_cases h1 : (2147483647 : Int) < (n : Int)
  · clear w0 w1
    go_enter Try.func3, Try.ntmps3
    go_wp2
    go_ret
    exact ⟨rfl, Below.refl _ _⟩
  by_cases h2 : (2147483647 : Int) < (m : Int)
  · clear w0 w1
    go_enter Try.func3, Try.ntmps3
    go_wp2
    go_ret
    exact ⟨rfl, Below.refl _ _⟩
  by_cases h3 : (100 : Int) < (n : Int)
  · clear w0 w1
    go_enter Try.func3, Try.ntmps3
    go_wp2
    go_ret
    exact ⟨rfl, Below.refl _ _⟩
  by_cases h0 : m = 0
  · subst h0
    clear w0 w1
    go_enter Try.func3, Try.ntmps3
    go_wp2
    go_ret
    exact ⟨rfl, Below.refl _ _⟩
  have e0 : ((m : Int) == 0) = false := by simp; omega
  by_cases h4 : (1000 : Int) < (m : Int)
  · clear w0 w1
    go_enter Try.func3, Try.ntmps3
    go_wp2
    go_ret
    exact ⟨rfl, Below.refl _ _⟩
  exact walk a0 a1 n cap0 m cap1 (zs.take n) (ys.take m) w w0.len.symm (by omega) (fun y hy => bounds_u8 (w0.wf y hy)) w1.len.symm (by omega) (by omega) (fun y hy => bounds_i16 (w1.wf y hy)) (src_of w0) (src_of w1 (by omega))
end Go.Proofs.Ytofidkkihkgagaa.FnSegmentsBoxW
