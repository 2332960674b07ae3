/- Contract of the package's box of a path. -/
import Derived.Test.YtofidkkihkgagaaSegM
import Derived.Test.YtofidkkihkgagaaRows
import Derived.ProofKit
import Derived.Lib.Hide
import Derived.Deep.DeepCutAuto
import Derived.Deep.QuietTactic
import Derived.Deep.RegionHeld3
namespace Go.Proofs.Ytofidkkihkgagaa.SegB
open Go.ChangeShapes Go.WideShapes Go.ChangeAt Go.RowKit
open Lst Mem SegM

/-- the four numbers of a box, as cells -/
def box4 (k : IntKind) (Q : List Pt) : List Value := [.int k (lx Q), .int k (ly Q), .int k (hx Q), .int k (hy Q)]

def bx (a b c d : Int) : List Value := [.int .i32 a, .int .i32 b, .int .i32 c, .int .i32 d]
theorem bx_cells {r : Nat} {t : TypeId} {a b c d : Int} {w : World} (h : Blk r t (bx a b c d) w) : (w.cell? ⟨r, 0, none⟩ = some (.int .i32 a) ∧ w.cell? ⟨r, 1, none⟩ = some (.int .i32 b) ∧ w.cell? ⟨r, 2, none⟩ = some (.int .i32 c) ∧ w.cell? ⟨r, 3, none⟩ = some (.int .i32 d)) ∧ ∀ i, w.frozen? ⟨r, i, none⟩ = false :=
  ⟨⟨h.cell rfl, h.cell rfl, h.cell rfl, h.cell rfl⟩, h.frozen⟩
theorem seg7_at (s : Sg) (j : Nat) (h : j < 3) : (seg7 s)[1 + j * 2]? = some (.int .i32 (pt s j).1) ∧ (seg7 s)[1 + j * 2 + 1]? = some (.int .i32 (pt s j).2) := by
  match j, h with
  | 0, _ => exact ⟨rfl, rfl⟩
  | 1, _ => exact ⟨rfl, rfl⟩
  | 2, _ => exact ⟨rfl, rfl⟩
theorem Blk.below {b B : Nat} {t : TypeId} {cs : List Value} {w w' : World} (h : Blk b t cs w) (hb : Below B w w') (hB : b < B) : Blk b t cs w' := (hb.block b hB).trans h

set_option maxHeartbeats 3200000 in
set_option maxRecDepth 4000 in
theorem bounds_any (A : Option Addr) (n c : Nat) (S : List Sg) (w : World) (hn : n = S.length) (hsz : n ≤ 1000) (hS : ∀ s ∈ S, Sgk s) (hA : 0 < n → ∃ b, A = some ⟨b, 0, none⟩ ∧ b < w.heap.size ∧ At w b 0 (S.flatMap seg7)) :
    Calls Try.prog 8 #[.slice A n c] w
      fun e w' => e = .returned (.agg (if n = 0 then #[.int .i32 0, .int .i32 0, .int .i32 0, .int .i32 0] else #[.int .i32 (lx (pts S)), .int .i32 (ly (pts S)), .int .i32 (hx (pts S)), .int .i32 (hy (pts S))])) ∧ Below w.heap.size w w' := by
  by_cases h0 : n = 0
  · subst h0
    clear hA hS hn
    go_enter Try.func8, Try.ntmps8
    go_wp2
    exact bodyPost_ret (v := .agg #[.int .i32 0, .int .i32 0, .int .i32 0, .int .i32 0]) (by simp [results, Try.results8, go_sem]) rfl ⟨rfl, bel_made w _ _⟩
  · obtain ⟨b, rfl, hb, hAt⟩ := hA (by omega)
    have e0 : ((n : Int) == 0) = false := by simp; omega
    have HN := Lib.hid hn
    have HS := Lib.hid hS
    have HA := Lib.hid hAt
    clear hn hS hA hAt
    go_enter Try.func8, Try.ntmps8
    go_wp2
    go_loopw [21] (fun i wr => ∃ k : Nat, k ≤ n ∧ i = .int .i64 k ∧ Blk w.heap.size 56 (box4 .i32 (pts (S.take k))) wr ∧ Below w.heap.size w wr) (fun i _ => n - (intOf i).toNat)
    case atStart => exact ⟨0, Nat.zero_le _, rfl, Blk.new_ w _ _, bel_made w _ _⟩
    case round =>
      obtain ⟨k, hk, rfl, hblk, hbel⟩ := hrel
      by_cases hlt : k < n
      · have hlS : k < S.length := by rw [← HN.out]; exact hlt
        obtain ⟨s, hs⟩ : ∃ s, s = S.getD k (0, []) := ⟨_, rfl⟩
        have hsk : Sgk s := by rw [hs]; exact HS.out _ (getD_mem S k _ hlS)
        have cells : ∀ r u, r < 7 → (seg7 s)[r]? = some u → wr.cell? ⟨b, k * 7 + r, none⟩ = some u := fun r u hr hu => by
          have := at_flat seg7_len (0, []) (HA.out.below hbel hb) hlS hr (by rw [← hs]; exact hu)
          rwa [Nat.mul_comm 7 k] at this
        have c0 : wr.cell? ⟨b, k * 7, none⟩ = some (.int .u32 s.1) := cells 0 _ (by decide) rfl
        have c1 := cells 1 _ (by decide) rfl
        have c2 := cells 2 _ (by decide) rfl
        have c3 := cells 3 _ (by decide) rfl
        have c4 := cells 4 _ (by decide) rfl
        have c5 := cells 5 _ (by decide) rfl
        have c6 := cells 6 _ (by decide) rfl
        obtain ⟨op, hop⟩ : ∃ op, op = s.1 := ⟨_, rfl⟩
        rw [← hop] at c0
        have HSK := Lib.hid hsk
        have HSS := Lib.hid hs
        have HOP := Lib.hid hop
        have HBK := Lib.hid hblk
        have HBL := Lib.hid hbel
        clear cells hsk hs hop hblk hbel
        have hop3 : op = 2 ∨ op = 3 ∨ ((op == 2) = false ∧ (op == 3) = false ∧ op ≠ 2 ∧ op ≠ 3) := by
          by_cases h2 : op = 2
          · exact .inl h2
          · by_cases h3 : op = 3
            · exact .inr (.inl h3)
            · exact .inr (.inr ⟨by simpa using h2, by simpa using h3, h2, h3⟩)
        rcases hop3 with rfl | rfl | ⟨x2, x3, y2, y3⟩
        case inl =>
          have hm : s.2.length = 2 := by rw [HSK.out.2.1, ← HOP.out]; rfl
          obtain ⟨W, hW⟩ : ∃ W, W = wr := ⟨_, rfl⟩
          subst hW
          have hsz : w.heap.size < W.heap.size := HBK.out.lt
          go_wp2
          go_loopw [6] (fun i wq => ∃ j : Nat, j ≤ 2 ∧ i = .int .i64 j ∧ Blk w.heap.size 56 (box4 .i32 (pts (S.take k) ++ s.2.take j)) wq ∧ Blk W.heap.size 52 (seg7 s) wq ∧ Below w.heap.size w wq) (fun i _ => 2 - (intOf i).toNat)
          case atStart => exact ⟨0, Nat.zero_le _, rfl, by simpa using HBK.out.keep (bel_made W _ _), by have h := Blk.new_ W #[.int .u32 2, .int .i32 (pt s 0).1, .int .i32 (pt s 0).2, .int .i32 (pt s 1).1, .int .i32 (pt s 1).2, .int .i32 (pt s 2).1, .int .i32 (pt s 2).2] 52; rw [show (#[Value.int .u32 2, .int .i32 (pt s 0).1, .int .i32 (pt s 0).2, .int .i32 (pt s 1).1, .int .i32 (pt s 1).2, .int .i32 (pt s 2).1, .int .i32 (pt s 2).2] : Array Value).toList = seg7 s from by rw [HOP.out]; rfl] at h; exact h, HBL.out.alloc HBL.out.size _⟩
          case round =>
            obtain ⟨j, hj, rfl, hqb, hqs, hqw⟩ := hrel
            by_cases hjm : j < 2
            · obtain ⟨s0, s1⟩ := seg7_at s j (by omega)
              have hj3 : (j : Int) < 3 := by omega
              have hpt : pt s j = s.2.getD j (0, 0) := rfl
              have htk := take_pt s.2 j (by rw [hm]; exact hjm)
              rw [← hpt] at htk
              have hpb := HSK.out.2.2 (pt s j) (by rw [hpt]; exact getD_mem _ _ _ (by rw [hm]; exact hjm))
              obtain ⟨px, hpx⟩ : ∃ x, x = (pt s j).1 := ⟨_, rfl⟩
              obtain ⟨py, hpy⟩ : ∃ x, x = (pt s j).2 := ⟨_, rfl⟩
              rw [← hpx] at s0 hpb
              rw [← hpy] at s1 hpb
              obtain ⟨a, ha⟩ : ∃ x, x = lx (pts (S.take k) ++ s.2.take j) := ⟨_, rfl⟩
              obtain ⟨b', hb'⟩ : ∃ x, x = ly (pts (S.take k) ++ s.2.take j) := ⟨_, rfl⟩
              obtain ⟨c', hc'⟩ : ∃ x, x = hx (pts (S.take k) ++ s.2.take j) := ⟨_, rfl⟩
              obtain ⟨d, hd⟩ : ∃ x, x = hy (pts (S.take k) ++ s.2.take j) := ⟨_, rfl⟩
              have hnew : box4 .i32 (pts (S.take k) ++ s.2.take (j + 1)) = bx (min a px) (min b' py) (max c' px) (max d py) := by
                rw [htk, ← List.append_assoc, box4, lx_snoc, ly_snoc, hx_snoc, hy_snoc, ← ha, ← hb', ← hc', ← hd, ← hpx, ← hpy]
                rfl
              have hold : box4 .i32 (pts (S.take k) ++ s.2.take j) = bx a b' c' d := by rw [box4, ← ha, ← hb', ← hc', ← hd]; rfl
              rw [hold] at hqb
              have HNEW := Lib.hid hnew
              have HP0 := Lib.hid s0
              have HP1 := Lib.hid s1
              have HQB := Lib.hid hqb
              have HQS := Lib.hid hqs
              have HQW := Lib.hid hqw
              clear hnew hold s0 s1 hqb hqs hqw ha hb' hc' hd hpx hpy htk hpt c0 c1 c2 c3 c4 c5 c6 hm
              obtain ⟨⟨z0, z1, z2, z3⟩, zf⟩ := bx_cells HQB.out
              have p0 := HQS.out.cell HP0.out
              have p1 := HQS.out.cell HP1.out
              go_wp2_with fail
              go_quiet (fail)
              go_upto_if 44 with (fail)
              go_cut [] (fun wx => Blk w.heap.size 56 (bx a b' (max c' px) d) wx ∧ Blk W.heap.size 52 (seg7 s) wx ∧ Below w.heap.size w wx)
              case first =>
                go_wp2
                · go_meet
                  have hcmp : c' < px := by first | assumption | (have h := ‹_ = true›; simpa using h)
                  refine ⟨?_, Blk.other HQS.out (by omega), (bel_draws HQW.out nq).setCell (p := ⟨w.heap.size, 2, none⟩) (Nat.le_refl _) _⟩
                  have h := HQB.out.set_ 2 (.int .i32 px)
                  rw [show max c' px = px by omega]
                  exact h
                · go_meet
                  have hcmp : ¬ (c' < px) := by first | assumption | (have h := ‹_ = false›; simpa using h) | omega
                  rw [show max c' px = c' by omega]
                  exact ⟨HQB.out, HQS.out, bel_draws HQW.out nq⟩
              case rest =>
              obtain ⟨hqb, hqs, hqw⟩ := hcut
              clear z0 z1 z2 z3 zf p0 p1 HQB HQS HQW
              have HQB := Lib.hid hqb
              have HQS := Lib.hid hqs
              have HQW := Lib.hid hqw
              clear hqb hqs hqw
              obtain ⟨⟨z0, z1, z2, z3⟩, zf⟩ := bx_cells HQB.out
              have p0 := HQS.out.cell HP0.out
              have p1 := HQS.out.cell HP1.out
              go_wp2_with fail
              go_quiet (fail)
              go_upto_if 60 with (fail)
              go_cut [] (fun wx => Blk w.heap.size 56 (bx (min a px) b' (max c' px) d) wx ∧ Blk W.heap.size 52 (seg7 s) wx ∧ Below w.heap.size w wx)
              case first =>
                go_wp2
                · go_meet
                  have hcmp : px < a := by first | assumption | (have h := ‹_ = true›; simpa using h)
                  refine ⟨?_, Blk.other HQS.out (by omega), (bel_draws HQW.out nq).setCell (p := ⟨w.heap.size, 0, none⟩) (Nat.le_refl _) _⟩
                  have h := HQB.out.set_ 0 (.int .i32 px)
                  rw [show min a px = px by omega]
                  exact h
                · go_meet
                  have hcmp : ¬ (px < a) := by first | assumption | (have h := ‹_ = false›; simpa using h) | omega
                  rw [show min a px = a by omega]
                  exact ⟨HQB.out, HQS.out, bel_draws HQW.out nq⟩
              case rest =>
              obtain ⟨hqb, hqs, hqw⟩ := hcut
              clear z0 z1 z2 z3 zf p0 p1 HQB HQS HQW
              have HQB := Lib.hid hqb
              have HQS := Lib.hid hqs
              have HQW := Lib.hid hqw
              clear hqb hqs hqw
              obtain ⟨⟨z0, z1, z2, z3⟩, zf⟩ := bx_cells HQB.out
              have p0 := HQS.out.cell HP0.out
              have p1 := HQS.out.cell HP1.out
              go_wp2_with fail
              go_quiet (fail)
              go_upto_if 76 with (fail)
              go_cut [] (fun wx => Blk w.heap.size 56 (bx (min a px) b' (max c' px) (max d py)) wx ∧ Blk W.heap.size 52 (seg7 s) wx ∧ Below w.heap.size w wx)
              case first =>
                go_wp2
                · go_meet
                  have hcmp : d < py := by first | assumption | (have h := ‹_ = true›; simpa using h)
                  refine ⟨?_, Blk.other HQS.out (by omega), (bel_draws HQW.out nq).setCell (p := ⟨w.heap.size, 3, none⟩) (Nat.le_refl _) _⟩
                  have h := HQB.out.set_ 3 (.int .i32 py)
                  rw [show max d py = py by omega]
                  exact h
                · go_meet
                  have hcmp : ¬ (d < py) := by first | assumption | (have h := ‹_ = false›; simpa using h) | omega
                  rw [show max d py = d by omega]
                  exact ⟨HQB.out, HQS.out, bel_draws HQW.out nq⟩
              case rest =>
              obtain ⟨hqb, hqs, hqw⟩ := hcut
              clear z0 z1 z2 z3 zf p0 p1 HQB HQS HQW
              have HQB := Lib.hid hqb
              have HQS := Lib.hid hqs
              have HQW := Lib.hid hqw
              clear hqb hqs hqw
              obtain ⟨⟨z0, z1, z2, z3⟩, zf⟩ := bx_cells HQB.out
              have p0 := HQS.out.cell HP0.out
              have p1 := HQS.out.cell HP1.out
              go_wp2_with fail
              go_quiet (fail)
              go_wp2
              · have hcmp : py < b' := by first | assumption | (have h := ‹_ = true›; simpa using h)
                go_roundw
                case rel =>
                  refine ⟨j + 1, by omega, by go_num, ?_, Blk.other HQS.out (by omega), (bel_draws HQW.out nq).setCell (p := ⟨w.heap.size, 1, none⟩) (Nat.le_refl _) _⟩
                  have h := HQB.out.set_ 1 (.int .i32 py)
                  rw [HNEW.out, show min b' py = py by omega]
                  exact h
                case measure => simp [intOf]; omega
              · have hcmp : ¬ (py < b') := by first | assumption | (have h := ‹_ = false›; simpa using h) | omega
                go_roundw
                case rel => exact ⟨j + 1, by omega, by go_num, by rw [HNEW.out, show min b' py = b' by omega]; exact HQB.out, HQS.out, bel_draws HQW.out nq⟩
                case measure => simp [intOf]; omega
            · obtain rfl : j = 2 := by omega
              have hfin : box4 .i32 (pts (S.take k) ++ s.2.take 2) = box4 .i32 (pts (S.take (k + 1))) := by
                rw [pts_take S k hlS, ← HSS.out, List.take_of_length_le (l := s.2) (by rw [hm]; exact Nat.le_refl _)]
              rw [hfin] at hqb
              have HQB := Lib.hid hqb
              have HQW := Lib.hid hqw
              clear hqb hqs hqw hfin
              go_wp2
              go_roundw
              case rel => exact ⟨k + 1, by omega, by go_num, HQB.out, HQW.out⟩
              case measure => simp [intOf]; omega
        case inr.inl =>
          have hm : s.2.length = 3 := by rw [HSK.out.2.1, ← HOP.out]; rfl
          obtain ⟨W, hW⟩ : ∃ W, W = wr := ⟨_, rfl⟩
          subst hW
          have hsz : w.heap.size < W.heap.size := HBK.out.lt
          go_wp2
          go_loopw [6] (fun i wq => ∃ j : Nat, j ≤ 3 ∧ i = .int .i64 j ∧ Blk w.heap.size 56 (box4 .i32 (pts (S.take k) ++ s.2.take j)) wq ∧ Blk W.heap.size 52 (seg7 s) wq ∧ Below w.heap.size w wq) (fun i _ => 3 - (intOf i).toNat)
          case atStart => exact ⟨0, Nat.zero_le _, rfl, by simpa using HBK.out.keep (bel_made W _ _), by have h := Blk.new_ W #[.int .u32 3, .int .i32 (pt s 0).1, .int .i32 (pt s 0).2, .int .i32 (pt s 1).1, .int .i32 (pt s 1).2, .int .i32 (pt s 2).1, .int .i32 (pt s 2).2] 52; rw [show (#[Value.int .u32 3, .int .i32 (pt s 0).1, .int .i32 (pt s 0).2, .int .i32 (pt s 1).1, .int .i32 (pt s 1).2, .int .i32 (pt s 2).1, .int .i32 (pt s 2).2] : Array Value).toList = seg7 s from by rw [HOP.out]; rfl] at h; exact h, HBL.out.alloc HBL.out.size _⟩
          case round =>
            obtain ⟨j, hj, rfl, hqb, hqs, hqw⟩ := hrel
            by_cases hjm : j < 3
            · obtain ⟨s0, s1⟩ := seg7_at s j (by omega)
              have hj3 : (j : Int) < 3 := by omega
              have hpt : pt s j = s.2.getD j (0, 0) := rfl
              have htk := take_pt s.2 j (by rw [hm]; exact hjm)
              rw [← hpt] at htk
              have hpb := HSK.out.2.2 (pt s j) (by rw [hpt]; exact getD_mem _ _ _ (by rw [hm]; exact hjm))
              obtain ⟨px, hpx⟩ : ∃ x, x = (pt s j).1 := ⟨_, rfl⟩
              obtain ⟨py, hpy⟩ : ∃ x, x = (pt s j).2 := ⟨_, rfl⟩
              rw [← hpx] at s0 hpb
              rw [← hpy] at s1 hpb
              obtain ⟨a, ha⟩ : ∃ x, x = lx (pts (S.take k) ++ s.2.take j) := ⟨_, rfl⟩
              obtain ⟨b', hb'⟩ : ∃ x, x = ly (pts (S.take k) ++ s.2.take j) := ⟨_, rfl⟩
              obtain ⟨c', hc'⟩ : ∃ x, x = hx (pts (S.take k) ++ s.2.take j) := ⟨_, rfl⟩
              obtain ⟨d, hd⟩ : ∃ x, x = hy (pts (S.take k) ++ s.2.take j) := ⟨_, rfl⟩
              have hnew : box4 .i32 (pts (S.take k) ++ s.2.take (j + 1)) = bx (min a px) (min b' py) (max c' px) (max d py) := by
                rw [htk, ← List.append_assoc, box4, lx_snoc, ly_snoc, hx_snoc, hy_snoc, ← ha, ← hb', ← hc', ← hd, ← hpx, ← hpy]
                rfl
              have hold : box4 .i32 (pts (S.take k) ++ s.2.take j) = bx a b' c' d := by rw [box4, ← ha, ← hb', ← hc', ← hd]; rfl
              rw [hold] at hqb
              have HNEW := Lib.hid hnew
              have HP0 := Lib.hid s0
              have HP1 := Lib.hid s1
              have HQB := Lib.hid hqb
              have HQS := Lib.hid hqs
              have HQW := Lib.hid hqw
              clear hnew hold s0 s1 hqb hqs hqw ha hb' hc' hd hpx hpy htk hpt c0 c1 c2 c3 c4 c5 c6 hm
              obtain ⟨⟨z0, z1, z2, z3⟩, zf⟩ := bx_cells HQB.out
              have p0 := HQS.out.cell HP0.out
              have p1 := HQS.out.cell HP1.out
              go_wp2_with fail
              go_quiet (fail)
              go_upto_if 44 with (fail)
              go_cut [] (fun wx => Blk w.heap.size 56 (bx a b' (max c' px) d) wx ∧ Blk W.heap.size 52 (seg7 s) wx ∧ Below w.heap.size w wx)
              case first =>
                go_wp2
                · go_meet
                  have hcmp : c' < px := by first | assumption | (have h := ‹_ = true›; simpa using h)
                  refine ⟨?_, Blk.other HQS.out (by omega), (bel_draws HQW.out nq).setCell (p := ⟨w.heap.size, 2, none⟩) (Nat.le_refl _) _⟩
                  have h := HQB.out.set_ 2 (.int .i32 px)
                  rw [show max c' px = px by omega]
                  exact h
                · go_meet
                  have hcmp : ¬ (c' < px) := by first | assumption | (have h := ‹_ = false›; simpa using h) | omega
                  rw [show max c' px = c' by omega]
                  exact ⟨HQB.out, HQS.out, bel_draws HQW.out nq⟩
              case rest =>
              obtain ⟨hqb, hqs, hqw⟩ := hcut
              clear z0 z1 z2 z3 zf p0 p1 HQB HQS HQW
              have HQB := Lib.hid hqb
              have HQS := Lib.hid hqs
              have HQW := Lib.hid hqw
              clear hqb hqs hqw
              obtain ⟨⟨z0, z1, z2, z3⟩, zf⟩ := bx_cells HQB.out
              have p0 := HQS.out.cell HP0.out
              have p1 := HQS.out.cell HP1.out
              go_wp2_with fail
              go_quiet (fail)
              go_upto_if 60 with (fail)
              go_cut [] (fun wx => Blk w.heap.size 56 (bx (min a px) b' (max c' px) d) wx ∧ Blk W.heap.size 52 (seg7 s) wx ∧ Below w.heap.size w wx)
              case first =>
                go_wp2
                · go_meet
                  have hcmp : px < a := by first | assumption | (have h := ‹_ = true›; simpa using h)
                  refine ⟨?_, Blk.other HQS.out (by omega), (bel_draws HQW.out nq).setCell (p := ⟨w.heap.size, 0, none⟩) (Nat.le_refl _) _⟩
                  have h := HQB.out.set_ 0 (.int .i32 px)
                  rw [show min a px = px by omega]
                  exact h
                · go_meet
                  have hcmp : ¬ (px < a) := by first | assumption | (have h := ‹_ = false›; simpa using h) | omega
                  rw [show min a px = a by omega]
                  exact ⟨HQB.out, HQS.out, bel_draws HQW.out nq⟩
              case rest =>
              obtain ⟨hqb, hqs, hqw⟩ := hcut
              clear z0 z1 z2 z3 zf p0 p1 HQB HQS HQW
              have HQB := Lib.hid hqb
              have HQS := Lib.hid hqs
              have HQW := Lib.hid hqw
              clear hqb hqs hqw
              obtain ⟨⟨z0, z1, z2, z3⟩, zf⟩ := bx_cells HQB.out
              have p0 := HQS.out.cell HP0.out
              have p1 := HQS.out.cell HP1.out
              go_wp2_with fail
              go_quiet (fail)
              go_upto_if 76 with (fail)
              go_cut [] (fun wx => Blk w.heap.size 56 (bx (min a px) b' (max c' px) (max d py)) wx ∧ Blk W.heap.size 52 (seg7 s) wx ∧ Below w.heap.size w wx)
              case first =>
                go_wp2
                · go_meet
                  have hcmp : d < py := by first | assumption | (have h := ‹_ = true›; simpa using h)
                  refine ⟨?_, Blk.other HQS.out (by omega), (bel_draws HQW.out nq).setCell (p := ⟨w.heap.size, 3, none⟩) (Nat.le_refl _) _⟩
                  have h := HQB.out.set_ 3 (.int .i32 py)
                  rw [show max d py = py by omega]
                  exact h
                · go_meet
                  have hcmp : ¬ (d < py) := by first | assumption | (have h := ‹_ = false›; simpa using h) | omega
                  rw [show max d py = d by omega]
                  exact ⟨HQB.out, HQS.out, bel_draws HQW.out nq⟩
              case rest =>
              obtain ⟨hqb, hqs, hqw⟩ := hcut
              clear z0 z1 z2 z3 zf p0 p1 HQB HQS HQW
              have HQB := Lib.hid hqb
              have HQS := Lib.hid hqs
              have HQW := Lib.hid hqw
              clear hqb hqs hqw
              obtain ⟨⟨z0, z1, z2, z3⟩, zf⟩ := bx_cells HQB.out
              have p0 := HQS.out.cell HP0.out
              have p1 := HQS.out.cell HP1.out
              go_wp2_with fail
              go_quiet (fail)
              go_wp2
              · have hcmp : py < b' := by first | assumption | (have h := ‹_ = true›; simpa using h)
                go_roundw
                case rel =>
                  refine ⟨j + 1, by omega, by go_num, ?_, Blk.other HQS.out (by omega), (bel_draws HQW.out nq).setCell (p := ⟨w.heap.size, 1, none⟩) (Nat.le_refl _) _⟩
                  have h := HQB.out.set_ 1 (.int .i32 py)
                  rw [HNEW.out, show min b' py = py by omega]
                  exact h
                case measure => simp [intOf]; omega
              · have hcmp : ¬ (py < b') := by first | assumption | (have h := ‹_ = false›; simpa using h) | omega
                go_roundw
                case rel => exact ⟨j + 1, by omega, by go_num, by rw [HNEW.out, show min b' py = b' by omega]; exact HQB.out, HQS.out, bel_draws HQW.out nq⟩
                case measure => simp [intOf]; omega
            · obtain rfl : j = 3 := by omega
              have hfin : box4 .i32 (pts (S.take k) ++ s.2.take 3) = box4 .i32 (pts (S.take (k + 1))) := by
                rw [pts_take S k hlS, ← HSS.out, List.take_of_length_le (l := s.2) (by rw [hm]; exact Nat.le_refl _)]
              rw [hfin] at hqb
              have HQB := Lib.hid hqb
              have HQW := Lib.hid hqw
              clear hqb hqs hqw hfin
              go_wp2
              go_roundw
              case rel => exact ⟨k + 1, by omega, by go_num, HQB.out, HQW.out⟩
              case measure => simp [intOf]; omega
        case inr.inr =>
          have hm : s.2.length = 1 := by rw [HSK.out.2.1, ← HOP.out]; simp [cnt, y2, y3]
          obtain ⟨W, hW⟩ : ∃ W, W = wr := ⟨_, rfl⟩
          subst hW
          have hsz : w.heap.size < W.heap.size := HBK.out.lt
          go_wp2
          go_loopw [6] (fun i wq => ∃ j : Nat, j ≤ 1 ∧ i = .int .i64 j ∧ Blk w.heap.size 56 (box4 .i32 (pts (S.take k) ++ s.2.take j)) wq ∧ Blk W.heap.size 52 (seg7 s) wq ∧ Below w.heap.size w wq) (fun i _ => 1 - (intOf i).toNat)
          case atStart => exact ⟨0, Nat.zero_le _, rfl, by simpa using HBK.out.keep (bel_made W _ _), by have h := Blk.new_ W #[.int .u32 op, .int .i32 (pt s 0).1, .int .i32 (pt s 0).2, .int .i32 (pt s 1).1, .int .i32 (pt s 1).2, .int .i32 (pt s 2).1, .int .i32 (pt s 2).2] 52; rw [show (#[Value.int .u32 op, .int .i32 (pt s 0).1, .int .i32 (pt s 0).2, .int .i32 (pt s 1).1, .int .i32 (pt s 1).2, .int .i32 (pt s 2).1, .int .i32 (pt s 2).2] : Array Value).toList = seg7 s from by rw [HOP.out]; rfl] at h; exact h, HBL.out.alloc HBL.out.size _⟩
          case round =>
            obtain ⟨j, hj, rfl, hqb, hqs, hqw⟩ := hrel
            by_cases hjm : j < 1
            · obtain ⟨s0, s1⟩ := seg7_at s j (by omega)
              have hj3 : (j : Int) < 3 := by omega
              have hpt : pt s j = s.2.getD j (0, 0) := rfl
              have htk := take_pt s.2 j (by rw [hm]; exact hjm)
              rw [← hpt] at htk
              have hpb := HSK.out.2.2 (pt s j) (by rw [hpt]; exact getD_mem _ _ _ (by rw [hm]; exact hjm))
              obtain ⟨px, hpx⟩ : ∃ x, x = (pt s j).1 := ⟨_, rfl⟩
              obtain ⟨py, hpy⟩ : ∃ x, x = (pt s j).2 := ⟨_, rfl⟩
              rw [← hpx] at s0 hpb
              rw [← hpy] at s1 hpb
              obtain ⟨a, ha⟩ : ∃ x, x = lx (pts (S.take k) ++ s.2.take j) := ⟨_, rfl⟩
              obtain ⟨b', hb'⟩ : ∃ x, x = ly (pts (S.take k) ++ s.2.take j) := ⟨_, rfl⟩
              obtain ⟨c', hc'⟩ : ∃ x, x = hx (pts (S.take k) ++ s.2.take j) := ⟨_, rfl⟩
              obtain ⟨d, hd⟩ : ∃ x, x = hy (pts (S.take k) ++ s.2.take j) := ⟨_, rfl⟩
              have hnew : box4 .i32 (pts (S.take k) ++ s.2.take (j + 1)) = bx (min a px) (min b' py) (max c' px) (max d py) := by
                rw [htk, ← List.append_assoc, box4, lx_snoc, ly_snoc, hx_snoc, hy_snoc, ← ha, ← hb', ← hc', ← hd, ← hpx, ← hpy]
                rfl
              have hold : box4 .i32 (pts (S.take k) ++ s.2.take j) = bx a b' c' d := by rw [box4, ← ha, ← hb', ← hc', ← hd]; rfl
              rw [hold] at hqb
              have HNEW := Lib.hid hnew
              have HP0 := Lib.hid s0
              have HP1 := Lib.hid s1
              have HQB := Lib.hid hqb
              have HQS := Lib.hid hqs
              have HQW := Lib.hid hqw
              clear hnew hold s0 s1 hqb hqs hqw ha hb' hc' hd hpx hpy htk hpt c0 c1 c2 c3 c4 c5 c6 hm
              obtain ⟨⟨z0, z1, z2, z3⟩, zf⟩ := bx_cells HQB.out
              have p0 := HQS.out.cell HP0.out
              have p1 := HQS.out.cell HP1.out
              go_wp2_with fail
              go_quiet (fail)
              go_upto_if 44 with (fail)
              go_cut [] (fun wx => Blk w.heap.size 56 (bx a b' (max c' px) d) wx ∧ Blk W.heap.size 52 (seg7 s) wx ∧ Below w.heap.size w wx)
              case first =>
                go_wp2
                · go_meet
                  have hcmp : c' < px := by first | assumption | (have h := ‹_ = true›; simpa using h)
                  refine ⟨?_, Blk.other HQS.out (by omega), (bel_draws HQW.out nq).setCell (p := ⟨w.heap.size, 2, none⟩) (Nat.le_refl _) _⟩
                  have h := HQB.out.set_ 2 (.int .i32 px)
                  rw [show max c' px = px by omega]
                  exact h
                · go_meet
                  have hcmp : ¬ (c' < px) := by first | assumption | (have h := ‹_ = false›; simpa using h) | omega
                  rw [show max c' px = c' by omega]
                  exact ⟨HQB.out, HQS.out, bel_draws HQW.out nq⟩
              case rest =>
              obtain ⟨hqb, hqs, hqw⟩ := hcut
              clear z0 z1 z2 z3 zf p0 p1 HQB HQS HQW
              have HQB := Lib.hid hqb
              have HQS := Lib.hid hqs
              have HQW := Lib.hid hqw
              clear hqb hqs hqw
              obtain ⟨⟨z0, z1, z2, z3⟩, zf⟩ := bx_cells HQB.out
              have p0 := HQS.out.cell HP0.out
              have p1 := HQS.out.cell HP1.out
              go_wp2_with fail
              go_quiet (fail)
              go_upto_if 60 with (fail)
              go_cut [] (fun wx => Blk w.heap.size 56 (bx (min a px) b' (max c' px) d) wx ∧ Blk W.heap.size 52 (seg7 s) wx ∧ Below w.heap.size w wx)
              case first =>
                go_wp2
                · go_meet
                  have hcmp : px < a := by first | assumption | (have h := ‹_ = true›; simpa using h)
                  refine ⟨?_, Blk.other HQS.out (by omega), (bel_draws HQW.out nq).setCell (p := ⟨w.heap.size, 0, none⟩) (Nat.le_refl _) _⟩
                  have h := HQB.out.set_ 0 (.int .i32 px)
                  rw [show min a px = px by omega]
                  exact h
                · go_meet
                  have hcmp : ¬ (px < a) := by first | assumption | (have h := ‹_ = false›; simpa using h) | omega
                  rw [show min a px = a by omega]
                  exact ⟨HQB.out, HQS.out, bel_draws HQW.out nq⟩
              case rest =>
              obtain ⟨hqb, hqs, hqw⟩ := hcut
              clear z0 z1 z2 z3 zf p0 p1 HQB HQS HQW
              have HQB := Lib.hid hqb
              have HQS := Lib.hid hqs
              have HQW := Lib.hid hqw
              clear hqb hqs hqw
              obtain ⟨⟨z0, z1, z2, z3⟩, zf⟩ := bx_cells HQB.out
              have p0 := HQS.out.cell HP0.out
              have p1 := HQS.out.cell HP1.out
              go_wp2_with fail
              go_quiet (fail)
              go_upto_if 76 with (fail)
              go_cut [] (fun wx => Blk w.heap.size 56 (bx (min a px) b' (max c' px) (max d py)) wx ∧ Blk W.heap.size 52 (seg7 s) wx ∧ Below w.heap.size w wx)
              case first =>
                go_wp2
                · go_meet
                  have hcmp : d < py := by first | assumption | (have h := ‹_ = true›; simpa using h)
                  refine ⟨?_, Blk.other HQS.out (by omega), (bel_draws HQW.out nq).setCell (p := ⟨w.heap.size, 3, none⟩) (Nat.le_refl _) _⟩
                  have h := HQB.out.set_ 3 (.int .i32 py)
                  rw [show max d py = py by omega]
                  exact h
                · go_meet
                  have hcmp : ¬ (d < py) := by first | assumption | (have h := ‹_ = false›; simpa using h) | omega
                  rw [show max d py = d by omega]
                  exact ⟨HQB.out, HQS.out, bel_draws HQW.out nq⟩
              case rest =>
              obtain ⟨hqb, hqs, hqw⟩ := hcut
              clear z0 z1 z2 z3 zf p0 p1 HQB HQS HQW
              have HQB := Lib.hid hqb
              have HQS := Lib.hid hqs
              have HQW := Lib.hid hqw
              clear hqb hqs hqw
              obtain ⟨⟨z0, z1, z2, z3⟩, zf⟩ := bx_cells HQB.out
              have p0 := HQS.out.cell HP0.out
              have p1 := HQS.out.cell HP1.out
              go_wp2_with fail
              go_quiet (fail)
              go_wp2
              · have hcmp : py < b' := by first | assumption | (have h := ‹_ = true›; simpa using h)
                go_roundw
                case rel =>
                  refine ⟨j + 1, by omega, by go_num, ?_, Blk.other HQS.out (by omega), (bel_draws HQW.out nq).setCell (p := ⟨w.heap.size, 1, none⟩) (Nat.le_refl _) _⟩
                  have h := HQB.out.set_ 1 (.int .i32 py)
                  rw [HNEW.out, show min b' py = py by omega]
                  exact h
                case measure => simp [intOf]; omega
              · have hcmp : ¬ (py < b') := by first | assumption | (have h := ‹_ = false›; simpa using h) | omega
                go_roundw
                case rel => exact ⟨j + 1, by omega, by go_num, by rw [HNEW.out, show min b' py = b' by omega]; exact HQB.out, HQS.out, bel_draws HQW.out nq⟩
                case measure => simp [intOf]; omega
            · obtain rfl : j = 1 := by omega
              have hfin : box4 .i32 (pts (S.take k) ++ s.2.take 1) = box4 .i32 (pts (S.take (k + 1))) := by
                rw [pts_take S k hlS, ← HSS.out, List.take_of_length_le (l := s.2) (by rw [hm]; exact Nat.le_refl _)]
              rw [hfin] at hqb
              have HQB := Lib.hid hqb
              have HQW := Lib.hid hqw
              clear hqb hqs hqw hfin
              go_wp2
              go_roundw
              case rel => exact ⟨k + 1, by omega, by go_num, HQB.out, HQW.out⟩
              case measure => simp [intOf]; omega
      · obtain rfl : k = n := by omega
        obtain ⟨⟨z0, z1, z2, z3⟩, zf⟩ := bx_cells hblk
        rw [List.take_of_length_le (by rw [← HN.out]; exact Nat.le_refl _)] at z0 z1 z2 z3
        have HBL := Lib.hid hbel
        clear hblk hbel
        go_wp2
        exact bodyPost_ret (v := .agg #[.int .i32 (lx (pts S)), .int .i32 (ly (pts S)), .int .i32 (hx (pts S)), .int .i32 (hy (pts S))]) (by simp [results, Try.results8, go_sem, z0, z1, z2, z3]) rfl ⟨by first | rw [if_neg h0] | rfl, (((HBL.out.setCell (p := ⟨w.heap.size, 0, none⟩) (Nat.le_refl _) _).setCell (p := ⟨w.heap.size, 1, none⟩) (Nat.le_refl _) _).setCell (p := ⟨w.heap.size, 2, none⟩) (Nat.le_refl _) _).setCell (p := ⟨w.heap.size, 3, none⟩) (Nat.le_refl _) _⟩
end Go.Proofs.Ytofidkkihkgagaa.SegB
