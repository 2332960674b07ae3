/- Contract of the reference's bytes of a glyph of contours. -/
import Derived.Test.YtdeaodgcdacleaaDoorDatL
import Derived.Deep.DeepCutAuto
import Derived.Deep.QuietTactic
import Derived.Deep.CutBlock
import Derived.BigQuiet
namespace Go.Proofs.YtdeaodgcdacleaaDoor.DatA
open Go.ChangeShapes Go.WideShapes Go.ChangeAt Go.RowKit
open Lst Mem SpecB GlyM DotB IdxB DatE DatL
open RowG (open_row own_isT own_ne own_set IsT)
set_option linter.unusedSimpArgs false
set_option linter.unusedVariables false

set_option maxHeartbeats 20000000 in
set_option maxRecDepth 4000 in
theorem data_any (T : Tys) (B lb l lc X ways : Nat) (vc : Value) (cs : List (List Dot)) (A4 : Option Addr) (c4 : Nat) (w : World) (hX : X < l) (hl : l ≤ 100) (hways : ways ≤ 3) (hv1 : w.cell? ⟨lb, X * 2, none⟩ = some vc) (hv2 : w.cell? ⟨lb, X * 2 + 1, none⟩ = some (.slice A4 0 c4))
    (hc : Cons T w B vc cs) (h0 : 0 < cs.length) (h3 : cs.length ≤ 3) (hok : ∀ c ∈ cs, ConOk c) :
    Calls Tryd.prog 7 #[.slice (some ⟨lb, 0, none⟩) l lc, .int .i64 X, .int .i64 ways] w
      fun e w' => (∃ v bs, e = .returned v ∧ Own w w' v bs ∧ Cod cs bs ∧ bs.length ≤ 1000) ∧ Below w.heap.size w w' := by
  obtain ⟨i1, hi1, iz1, iy1, ib1⟩ := info_parts u8info
  have HD := Lib.hid (fun (W : World) (hb : Below w.heap.size w W) => dotsBox_any T B vc (.slice A4 0 c4) cs W (hc.same (Same.below hb)) ⟨_, _, _, rfl⟩ h0 h3 hok)
  have hcons := hc
  rcases hc with ⟨_, h⟩ | ⟨g, cg, rfl, ht, hB, hcon⟩
  · rw [h] at h0; simp at h0
  obtain ⟨N, hN⟩ : ∃ N, N = cs.length := ⟨_, rfl⟩
  have hgl := ht.lt
  rw [← hN] at h0 h3 hv1 hcons HD
  have HN := Lib.hid hN
  have HC := Lib.hid hcon
  have HK := Lib.hid hok
  have hN0 : ((N : Int) == 0) = false := by simp; omega
  clear hN hcon hok ht hcons
  go_enter Tryd.func7, Tryd.ntmps7
  go_wp2_with fail
  refine (HD.out _ (bel_made w _ _)).mono ?_
  rintro e w1 ⟨⟨a, b, c, d, rfl, ba, bb, bc, bd⟩, hb1⟩
  have hgb := SegM.Blk.keep (SegM.Blk.new_ w #[.slice (some ⟨g, 0, none⟩) N cg, .slice A4 0 c4] 55) hb1
  have HB1 := Lib.hid ((bel_made w #[.slice (some ⟨g, 0, none⟩) N cg, .slice A4 0 c4] 55).trans (hb1.mono (by simp)))
  have g0 := hgb.cell (i := 0) rfl
  have g1 := hgb.cell (i := 1) rfl
  have g0a := keep_new (o := .cells #[.int .i64 a, .int .i64 b, .int .i64 c, .int .i64 d] 32) g0
  have g1a := keep_new (o := .cells #[.int .i64 a, .int .i64 b, .int .i64 c, .int .i64 d] 32) g1
  have HGB := Lib.hid hgb
  clear hb1 hgb
  go_wp2_with fail
  have hbx := SegM.Blk.new_ w1 #[.int .i64 a, .int .i64 b, .int .i64 c, .int .i64 d] 32
  refine (words_any (w1.heap.size + 1) 0 5 [(N : Int), a, b, c, d] ((w1.alloc (.cells #[.int .i64 a, .int .i64 b, .int .i64 c, .int .i64 d] 32)).alloc (.cells #[.int .i64 N, .int .i64 a, .int .i64 b, .int .i64 c, .int .i64 d] 3)) (by simp) (fun q u hu => ?_) (by simp; omega) (by simp)).mono ?_
  · have h := (SegM.Blk.new_ (w1.alloc (.cells #[.int .i64 a, .int .i64 b, .int .i64 c, .int .i64 d] 32)) #[.int .i64 N, .int .i64 a, .int .i64 b, .int .i64 c, .int .i64 d] 3).cell (i := q) (u := u) (by exact hu)
    rw [World.size_alloc] at h
    rw [Nat.zero_add]
    exact h
  rintro e w2 ⟨v2, rfl, ho2, hn2, hb2⟩
  have hb2' : Below w.heap.size w w2 := ((HB1.out.alloc HB1.out.size _).alloc (by have := HB1.out.size; simp; omega) _).trans (hb2.mono (by have := HB1.out.size; simp; omega))
  have hgb2 : SegM.Blk w.heap.size 55 [.slice (some ⟨g, 0, none⟩) N cg, .slice A4 0 c4] w2 := SegM.Blk.keep (SegM.Blk.keep (SegM.Blk.keep HGB.out (bel_made w1 _ _)) (bel_made _ _ _)) hb2
  have HO2 := Lib.hid (RowG.own_base' ho2 (show w.heap.size + 1 ≤ _ by have := HB1.out.size; have := HGB.out.lt; simp; omega))
  have HB2 := Lib.hid hb2'
  have HG2 := Lib.hid hgb2
  have g2 := hgb2.cell (i := 0) rfl
  clear ho2 hb2 hb2' hgb2 g0 g1 g0a g1a hbx
  go_wp2
  go_loopw [14, 15, 210] (fun o n i wr => ∃ (k : Nat) (bs : List Int), k ≤ N ∧ i = .int .i64 k ∧ n = .int .i64 (dots (cs.take k)) ∧ Rw (w.heap.size + 1) wr o bs ∧ bs.length = 10 + 2 * k ∧ bs = words ([(N : Int), a, b, c, d] ++ ends cs k) ∧ SegM.Blk w.heap.size 55 [.slice (some ⟨g, 0, none⟩) N cg, .slice A4 0 c4] wr ∧ Below w.heap.size w wr) (fun _ _ i _ => N - (intOf i).toNat)
  case atStart => exact ⟨0, words [(N : Int), a, b, c, d], Nat.zero_le _, rfl, by simp [dots], ⟨by rw [words_len]; exact HO2.out, hn2⟩, by rw [words_len]; rfl, by simp [ends], HG2.out, HB2.out⟩
  case round =>
    obtain ⟨k, bs, hk, rfl, rfl, hrw, hbl, hby, hgb, hbel⟩ := hrel
    by_cases hlt : k < N
    · obtain ⟨q, cq, a1, a2, _⟩ := HC.out k (by rw [← HN.out]; exact hlt)
      have hcm : cs.getD k [] ∈ cs := SegM.getD_mem _ _ _ (by rw [← HN.out]; exact hlt)
      have hdt := dots_take cs k (by rw [← HN.out]; exact hlt)
      have hdl := dots_le (cs.take k) (fun c hc => HK.out c (List.mem_of_mem_take hc))
      rw [List.length_take] at hdl
      have hco := HK.out _ hcm
      obtain ⟨M, hM⟩ : ∃ M, M = (cs.getD k []).length := ⟨_, rfl⟩
      have hM6 : 0 < M ∧ M ≤ 6 := by rw [hM]; exact ⟨hco.1, hco.2.1⟩
      obtain ⟨D, hD⟩ : ∃ D, D = dots (cs.take k) := ⟨_, rfl⟩
      rw [← hM] at a1 hdt
      rw [← hD] at hdt hdl
      have hD18 : D ≤ 18 := by omega
      have d0 := (hbel.cell (p := ⟨g, k, none⟩) hgl).trans a1
      have HDT := Lib.hid hdt
      have HG := Lib.hid hgb
      have HBL := Lib.hid hbel
      have HRW := Lib.hid hrw
      have HBY := Lib.hid hby
      rw [← hD]
      clear a1 a2 hcm hdt hdl hco hM hD hgb hbel hrw hby
      go_wp2_with fail
      refine (words_any wr.heap.size 0 1 [(D : Int) + (M : Int) - 1] (wr.alloc (.cells #[.int .i64 ((D : Int) + (M : Int) - 1)] 3)) (by simp) (fun q u hu => ?_) (by simp; omega) (by simp)).mono ?_
      · have h := (SegM.Blk.new_ wr #[.int .i64 ((D : Int) + (M : Int) - 1)] 3).cell (i := q) (u := u) (by exact hu)
        rw [Nat.zero_add]
        exact h
      rintro e w3 ⟨v3, rfl, ho3, hn3, hb3⟩
      obtain ⟨g3, cp3, rfl, hA3, _, hg3, hg3'⟩ := own_open ho3 hn3
      have hal : Below wr.heap.size wr w3 := (bel_made wr _ _).trans (hb3.mono (by simp))
      have HO3 := Lib.hid hA3
      have HAL := Lib.hid hal
      have HR3 := Lib.hid (HRW.out.below hal)
      clear ho3 hA3 hal hb3
      go_wp2_with (at_builtin; refine wpList_append_own_at _ rfl _ _ 38 rfl (w.heap.size + 1) 5 i1 (.int .u8 0) 1 1 Tryd.underlying38 hi1 iz1 iy1 ib1 rfl (by decide) _ _ _ rfl HR3.out.1 ⟨g3, 0, none⟩ 2 cp3 (vals .u8 (words [(D : Int) + (M : Int) - 1])) rfl rfl (at_add HO3.out) (vals_ok _ _) ?c3 ?c4 ?c5 ?_)
      case c3 => unfold maxLen; omega
      case c4 => omega
      case c5 => have := (HBL.out.trans (HAL.out.mono HBL.out.size)).size; have := HR3.out.1; have h2 := HG.out.lt; have h3 := HAL.out.size; omega
      intro v4 w4 own4 grow4 nil4 at4
      have hn4 : v4 ≠ .slice none 0 0 := nil4
      have hrw4 : Rw (w.heap.size + 1) w4 v4 (bs ++ words [(D : Int) + (M : Int) - 1]) := ⟨by rw [vals_app, List.length_append, hbl]; exact own4, hn4⟩
      have hgb4 : SegM.Blk w.heap.size 55 [.slice (some ⟨g, 0, none⟩) N cg, .slice A4 0 c4] w4 := DotB.sblk_grown (SegM.Blk.keep HG.out HAL.out) grow4 (own_ne HR3.out.1 (.inl (by omega)))
      have hbel4 : Below w.heap.size w w4 := (HBL.out.trans (HAL.out.mono HBL.out.size)).grown grow4 (Nat.le_trans HBL.out.size HAL.out.size) (fun g hg => by have := (own_isT HR3.out.1 hg).2; omega)
      have HF := Lib.hid (And.intro hrw4 (And.intro hgb4 hbel4))
      clear own4 grow4 nil4 at4 hn4 hrw4 hgb4 hbel4
      go_wp2
      go_roundw
      case rel => exact ⟨k + 1, _, by omega, by go_num, by rw [HDT.out]; go_num, HF.out.1, by rw [List.length_append, words_len]; simp; omega, by rw [HBY.out, ends_succ, HDT.out, ← List.append_assoc, words_app _ [_]]; congr 3, HF.out.2.1, HF.out.2.2⟩
      case measure => simp [intOf]; omega
    · obtain rfl : k = N := by omega
      have hsz := hbel.size
      have hglt := hgb.lt
      have HRW := Lib.hid hrw
      have HBY := Lib.hid hby
      have HBL := Lib.hid hbel
      have HG := Lib.hid hgb
      obtain ⟨W, hW⟩ : ∃ W, W = wr := ⟨_, rfl⟩
      subst hW
      clear hrw hby hbel hgb
      go_wp2_with (at_builtin; refine wpList_append_own_at _ rfl _ _ 38 rfl (w.heap.size + 1) 5 i1 (.int .u8 0) 1 1 Tryd.underlying38 hi1 iz1 iy1 ib1 rfl (by decide) _ _ _ rfl (HRW.out.1.alloc _) ⟨W.heap.size, 0, none⟩ 2 2 (vals .u8 [0, 0]) rfl rfl ?c1 ?c2 ?c3 ?c4 ?c5 ?_)
      case c1 => exact cell_one_two_new W _ _ _
      case c2 => exact vals_ok _ _
      case c3 => unfold maxLen; omega
      case c4 => omega
      case c5 => simp; omega
      intro o1 W1 own1 grow1 nil1 at1
      have hrw1 : Rw (w.heap.size + 1) W1 o1 (bs ++ [0, 0]) := ⟨by rw [vals_app, List.length_append, hbl]; exact own1, nil1⟩
      have hgb1 : SegM.Blk w.heap.size 55 [.slice (some ⟨g, 0, none⟩) k cg, .slice A4 0 c4] W1 := DotB.sblk_grown (SegM.Blk.keep HG.out (bel_made W _ _)) grow1 (own_ne HRW.out.1 (.inl (by omega)))
      have hbel1 : Below w.heap.size w W1 := (HBL.out.alloc HBL.out.size _).grown grow1 (by have := HBL.out.size; simp; omega) (fun g hg => by have := (own_isT HRW.out.1 hg).2; omega)
      have HRW1 := Lib.hid hrw1
      have HG1 := Lib.hid hgb1
      have HBL1 := Lib.hid hbel1
      have HBY1 := Lib.hid (show bs ++ [0, 0] = Head a b c d cs by rw [HBY.out, Head, words_app _ [0], HN.out]; rfl)
      have g4 := hgb1.cell (i := 0) rfl
      have hsz1 := hbel1.size
      have HN1 := Lib.hid nil1
      clear own1 grow1 nil1 at1 hrw1 hgb1 hbel1
      have HG5 := Lib.hid (keep_new (o := .cells #[.int .i64 0, .int .i64 0, .bool false] 72) (keep_new (o := .cells #[] 5) (keep_new (o := .cells #[] 5) (keep_new (o := .cells #[] 5) g4))))
      have g5 := HG5.out
      go_wp2
      obtain ⟨OS, hOS⟩ : ∃ l, l = bs ++ [0, 0] := ⟨_, rfl⟩
      have hOL : OS.length = 12 + 2 * k := by rw [hOS]; simp; omega
      rw [← hOS] at HRW1 HBY1
      have hOSb : Byt OS := by rw [HBY1.out]; exact words_byt _
      obtain ⟨b1, hb1⟩ : ∃ b, (bits BinOp.and IntKind.i64 (ways : Int) 1 == 1) = b := ⟨_, rfl⟩
      clear hOS HRW HBL HG HBY hbl HG5 g5 g4 hn2 HO2 HB2 HG2 g2 HB1 HGB HD hsz hglt
      go_loopw [18, 19, 20, 235] (fun pa pb pc i wr => ∃ (j : Nat) (fs xs ys : List Int) (lx ly : Int) (lob : Bool), j ≤ k ∧ i = .int .i64 j ∧ St (w.heap.size + 1) wr o1 pa pb pc OS (cs.take j).flatten fs xs ys ∧ (lx = (lastd (cs.take j).flatten).1 ∧ ly = (lastd (cs.take j).flatten).2.1) ∧ (-4096 ≤ lx ∧ lx ≤ 4096) ∧ (-4096 ≤ ly ∧ ly ≤ 4096) ∧ Kp w.heap.size (W1.heap.size + 1 + 1 + 1) (W1.heap.size + 1 + 1 + 1) [.slice (some ⟨g, 0, none⟩) k cg, .slice A4 0 c4] [.int .i64 lx, .int .i64 ly, .bool lob] [.int .i64 lx, .int .i64 ly, .bool lob] w wr) (fun _ _ _ i _ => k - (intOf i).toNat)
      case atStart =>
        have hb := SegM.Blk.new_ (((W1.alloc (.cells #[] 5)).alloc (.cells #[] 5)).alloc (.cells #[] 5)) #[.int .i64 0, .int .i64 0, .bool false] 72
        simp only [World.size_alloc] at hb
        have hal : Below W1.heap.size W1 ((((W1.alloc (.cells #[] 5)).alloc (.cells #[] 5)).alloc (.cells #[] 5)).alloc (.cells #[.int .i64 0, .int .i64 0, .bool false] 72)) := (((bel_made W1 _ _).alloc (by simp) _).alloc (by simp; omega) _).alloc (by simp; omega) _
        refine ⟨0, [], [], [], 0, 0, false, Nat.zero_le _, rfl, st_start HRW1.out (by have := HG1.out.lt; omega) _, ⟨rfl, rfl⟩, by omega, by omega, HG1.out.keep hal, hb, hb, HBL1.out.trans (hal.mono HBL1.out.size)⟩
      case round =>
        obtain ⟨j, fs, xs, ys, lx, ly, lob, hj, rfl, hst, hfl, hlx, hly, hkp⟩ := hrel
        by_cases hlt2 : j < k
        · obtain ⟨q, cq, a1, a2, _⟩ := HC.out j (by rw [← HN.out]; exact hlt2)
          have hcm : cs.getD j [] ∈ cs := SegM.getD_mem _ _ _ (by rw [← HN.out]; exact hlt2)
          have hdt := flat_take cs j (by rw [← HN.out]; exact hlt2)
          have hdl := dots_le (cs.take j) (fun c hc => HK.out c (List.mem_of_mem_take hc))
          rw [List.length_take] at hdl
          obtain ⟨c, hce⟩ : ∃ c, c = cs.getD j [] := ⟨_, rfl⟩
          rw [← hce] at a1 a2 hcm hdt
          have hco := HK.out c hcm
          obtain ⟨M, hM⟩ : ∃ M, M = c.length := ⟨_, rfl⟩
          have hM6 : 0 < M ∧ M ≤ 6 := by rw [hM]; exact ⟨hco.1, hco.2.1⟩
          obtain ⟨DS, hDS⟩ : ∃ D, D = (cs.take j).flatten := ⟨_, rfl⟩
          rw [← hM] at a1
          rw [← dots_flat, ← hDS] at hdl
          rw [← hDS] at hdt hfl hst
          have hD18 : DS.length ≤ 18 := by omega
          have d0 := (hkp.2.2.2.cell (p := ⟨g, j, none⟩) hgl).trans a1
          have hql := a2.1.lt
          have HA2 := Lib.hid a2
          have HCO := Lib.hid hco
          have HM := Lib.hid hM
          have HDT := Lib.hid hdt
          have HST := Lib.hid hst
          have HKP := Lib.hid hkp
          have HFL := Lib.hid hfl
          clear a1 a2 hce hcm hdt hdl hco hM hDS hst hkp hfl
          go_wp2
          go_loopw [18, 19, 20, 241] (fun pa pb pc i wr => ∃ (jj : Nat) (fs xs ys : List Int) (lx ly : Int) (lob : Bool), jj ≤ M ∧ i = .int .i64 jj ∧ St (w.heap.size + 1) wr o1 pa pb pc OS (DS ++ c.take jj) fs xs ys ∧ (lx = (lastd (DS ++ c.take jj)).1 ∧ ly = (lastd (DS ++ c.take jj)).2.1) ∧ (-4096 ≤ lx ∧ lx ≤ 4096) ∧ (-4096 ≤ ly ∧ ly ≤ 4096) ∧ Kp w.heap.size (W1.heap.size + 1 + 1 + 1) (W1.heap.size + 1 + 1 + 1) [.slice (some ⟨g, 0, none⟩) k cg, .slice A4 0 c4] [.int .i64 lx, .int .i64 ly, .bool lob] [.int .i64 lx, .int .i64 ly, .bool lob] w wr) (fun _ _ _ i _ => M - (intOf i).toNat)
          case atStart => exact ⟨0, fs, xs, ys, lx, ly, lob, Nat.zero_le _, rfl, by rw [List.take_zero, List.append_nil]; exact HST.out, by rw [List.take_zero, List.append_nil]; exact HFL.out, hlx, hly, HKP.out⟩
          case round =>
            obtain ⟨jj, fs2, xs2, ys2, mx, my, mo, hjj, rfl, hst2, hfl2, hmx, hmy, hkp2⟩ := hrel
            by_cases hjM : jj < M
            · obtain ⟨v0, v1, v2'⟩ := dot_cells HA2.out (j := jj) (by rw [← HM.out]; exact hjM)
              have hdm := HCO.out.2.2.1 (c.getD jj (0, 0, false)) (SegM.getD_mem _ _ _ (by rw [← HM.out]; exact hjM))
              obtain ⟨dd, hd⟩ : ∃ d, d = c.getD jj (0, 0, false) := ⟨_, rfl⟩
              rw [← hd] at v0 v1 v2' hdm
              have e0 := (hkp2.2.2.2.cell (p := ⟨q, jj * 3, none⟩) hql).trans v0
              have e1 := (hkp2.2.2.2.cell (p := ⟨q, jj * 3 + 1, none⟩) hql).trans v1
              have e2 := (hkp2.2.2.2.cell (p := ⟨q, jj * 3 + 2, none⟩) hql).trans v2'
              obtain ⟨x, hx⟩ : ∃ x, x = dd.1 := ⟨_, rfl⟩
              obtain ⟨y, hy⟩ : ∃ y, y = dd.2.1 := ⟨_, rfl⟩
              obtain ⟨on, hon⟩ : ∃ y, y = dd.2.2 := ⟨_, rfl⟩
              rw [← hx] at e0
              rw [← hy] at e1
              rw [← hon] at e2
              have hxy : (-4096 ≤ x ∧ x ≤ 4096) ∧ (-4096 ≤ y ∧ y ≤ 4096) := by rw [hx, hy]; exact ⟨hdm.1.1, hdm.2.1⟩
              have hdl2 : (DS ++ c.take jj).length ≤ 24 := by rw [List.length_append, List.length_take]; omega
              have hfn : fs2.length ≤ 24 := by rw [hst2.2.len.1]; exact hdl2
              have hle2 : xs2.length ≤ 48 ∧ ys2.length ≤ 48 := by have := hst2.2.le; omega
              have htk := take_snocd c jj (by rw [← HM.out]; exact hjM)
              rw [← hd] at htk
              obtain ⟨D2, hD2⟩ : ∃ l, l = DS ++ c.take jj := ⟨_, rfl⟩
              have hnx : DS ++ c.take (jj + 1) = D2 ++ [dd] := by rw [htk, hD2, List.append_assoc]
              rw [← hD2] at hst2 hfl2
              have HNX := Lib.hid hnx
              have HXY := Lib.hid (And.intro hx (And.intro hy hon))
              have HST2 := Lib.hid hst2
              have HKP2 := Lib.hid hkp2
              have HFL2 := Lib.hid hfl2
              have hkq : Kp w.heap.size (W1.heap.size + 1 + 1 + 1) wr.heap.size [.slice (some ⟨g, 0, none⟩) k cg, .slice A4 0 c4] [.int .i64 mx, .int .i64 my, .bool mo] [.int .i64 x, .int .i64 y, .bool on] w (wr.alloc (.cells #[.int .i64 x, .int .i64 y, .bool on] 72)) :=
                ⟨hkp2.1.keep (bel_made _ _ _), hkp2.2.1.keep (bel_made _ _ _), SegM.Blk.new_ wr #[.int .i64 x, .int .i64 y, .bool on] 72, hkp2.2.2.2.alloc hkp2.2.2.2.size _⟩
              have HKQ := Lib.hid hkq
              obtain ⟨DB, hDB⟩ : ∃ DB, DB = wr.heap.size := ⟨_, rfl⟩
              clear hst2 hkp2 hfl2 v0 v1 v2' hd hx hy hon hdm hkq hdl2 htk hD2 hnx
              go_upto_if 246 with (fail)
              go_cut [26] (fun s26 wx => ∃ f0 : Int, s26 = .int .u8 f0 ∧ F0 on f0 ∧ St (w.heap.size + 1) wx o1 u18 u19 u20 OS D2 fs2 xs2 ys2 ∧ Kp w.heap.size (W1.heap.size + 1 + 1 + 1) wr.heap.size [.slice (some ⟨g, 0, none⟩) k cg, .slice A4 0 c4] [.int .i64 mx, .int .i64 my, .bool mo] [.int .i64 x, .int .i64 y, .bool on] w wx)
              case first =>
                cases on
                · go_wp2
                  go_meet
                  exact ⟨0, rfl, rfl, HST2.out.below (bel_made _ _ _), HKQ.out⟩
                · go_wp2
                  go_meet
                  exact ⟨1, rfl, rfl, HST2.out.below (bel_made _ _ _), HKQ.out⟩
              case rest =>
                as_aux_lemma =>
                  obtain ⟨f0, rfl, hf0, hst3, hkp3⟩ := hcut
                  have x0 := hkp3.2.2.1.cell (i := 0) rfl
                  have x1 := hkp3.2.2.1.cell (i := 1) rfl
                  have l0 := hkp3.2.1.cell (i := 0) rfl
                  have l1 := hkp3.2.1.cell (i := 1) rfl
                  have wx1 : IntKind.i64.wrap (x - mx) = x - mx := IntWalk.i64_in _ (by omega)
                  have wy1 : IntKind.i64.wrap (y - my) = y - my := IntWalk.i64_in _ (by omega)
                  have HS3 := Lib.hid hst3
                  have HK3 := Lib.hid hkp3
                  clear hst3 hkp3
                  go_upto_region 55 with (fail)
                  go_cut [27, 28] (fun s27 s28 wx => ∃ dx dy : Int, s27 = .int .i64 dx ∧ s28 = .int .i64 dy ∧ (dx = x - mx ∧ dy = y - my) ∧ (-8192 ≤ dx ∧ dx ≤ 8192) ∧ (-8192 ≤ dy ∧ dy ≤ 8192) ∧ St (w.heap.size + 1) wx o1 u18 u19 u20 OS D2 fs2 xs2 ys2 ∧ Kp w.heap.size (W1.heap.size + 1 + 1 + 1) wr.heap.size [.slice (some ⟨g, 0, none⟩) k cg, .slice A4 0 c4] [.int .i64 mx, .int .i64 my, .bool mo] [.int .i64 x, .int .i64 y, .bool on] w wx)
                  case first =>
                    go_quiet (fail)
                    go_wp2
                    go_meet
                    exact ⟨x - mx, y - my, rfl, rfl, ⟨rfl, rfl⟩, by omega, by omega, HS3.out.below (RowG.bel_draws (Below.refl _ _) _), HK3.out.below (RowG.bel_draws (Below.refl _ _) _)⟩
                  case rest =>
                    obtain ⟨dx, dy, rfl, rfl, hde, hdx, hdy, hst4, hkp4⟩ := hcut
                    have HDE := Lib.hid hde
                    have HS4 := Lib.hid hst4
                    have HK4 := Lib.hid hkp4
                    clear x0 x1 l0 l1 wx1 wy1 HS3 HK3 hst4 hkp4 e0 e1 e2 hde
                    obtain ⟨W5, hW5⟩ : ∃ W, W = wc := ⟨_, rfl⟩
                    subst hW5
                    go_upto_block 10 with (fail)
                    go_cut [26, 19] (fun s26 s19 wx => ∃ (f1 : Int) (bx : List Int), s26 = .int .u8 f1 ∧ Xs on f1 bx dx ∧ Four (w.heap.size + 1) wx o1 u18 s19 u20 OS fs2 (xs2 ++ bx) ys2 ∧ Kp w.heap.size (W1.heap.size + 1 + 1 + 1) wr.heap.size [.slice (some ⟨g, 0, none⟩) k cg, .slice A4 0 c4] [.int .i64 mx, .int .i64 my, .bool mo] [.int .i64 x, .int .i64 y, .bool on] w wx)
                    case first =>
                      as_aux_lemma =>
                        cases b1
                        · have HRdxd := Lib.hid (HS4.out.1.rot.rot)
                          go_wp2_with fail
                          refine (two_at _ _).mono ?_
                          rintro e wt ⟨rfl, rfl⟩
                          go_wp2_with (at_builtin; refine wpList_append_own_at _ rfl _ _ 38 rfl (w.heap.size + 1) 5 i1 (.int .u8 0) 1 1 Tryd.underlying38 hi1 iz1 iy1 ib1 rfl (by decide) _ _ _ rfl (HRdxd.out.1.1.alloc _) ⟨W5.heap.size, 0, none⟩ 2 2 (vals .u8 [hi dx, lo dx]) rfl rfl ?c1 ?c2 ?c3 ?c4 ?c5 ?_)
                          case c1 => exact cell_one_two_new W5 _ _ _
                          case c2 => exact vals_ok _ _
                          case c3 => unfold maxLen; omega
                          case c4 => omega
                          case c5 => have := HK4.out.2.2.2.size; simp; omega
                          intro vdxd wdxd owndxd growdxd nildxd atdxd
                          have fodxd := (four_step (news := [hi dx, lo dx]) HRdxd.out (bel_made W5 _ _) owndxd growdxd nildxd (by rw [World.size_alloc]; exact atdxd)).rot.rot
                          have kpdxd := HK4.out.step (bel_made W5 _ _) HRdxd.out.1 growdxd
                          have HEdxd := Lib.hid (And.intro fodxd kpdxd)
                          clear fodxd kpdxd owndxd growdxd nildxd atdxd
                          go_wp2
                          go_meet
                          exact ⟨_, _, rfl, xs_0 dx hf0, HEdxd.out.1, HEdxd.out.2⟩
                        · by_cases h0q : dx = 0
                          · subst h0q
                            go_wp2
                            go_meet
                            exact ⟨_, [], rfl, xs_16 hf0, by rw [List.append_nil]; exact HS4.out.1, HK4.out⟩
                          · by_cases h1q : -256 < dx ∧ dx < 256
                            · by_cases h2q : 0 < dx
                              · have HRdxa := Lib.hid (HS4.out.1.rot.rot)
                                go_wp2_with (at_builtin; refine wpList_append_own_at _ rfl _ _ 38 rfl (w.heap.size + 1) 5 i1 (.int .u8 0) 1 1 Tryd.underlying38 hi1 iz1 iy1 ib1 rfl (by decide) _ _ _ rfl (HRdxa.out.1.1.alloc _) ⟨W5.heap.size, 0, none⟩ 1 1 (vals .u8 [dx]) rfl rfl (one_cell _ _ _ _) (vals_ok _ _) ?c3 ?c4 ?c5 ?_)
                                case c3 => unfold maxLen; omega
                                case c4 => omega
                                case c5 => have := HK4.out.2.2.2.size; simp; omega
                                intro vdxa wdxa owndxa growdxa nildxa atdxa
                                have fodxa := (four_step (news := [dx]) HRdxa.out (bel_made W5 _ _) owndxa growdxa nildxa (by rw [World.size_alloc]; exact atdxa)).rot.rot
                                have kpdxa := HK4.out.step (bel_made W5 _ _) HRdxa.out.1 growdxa
                                have HEdxa := Lib.hid (And.intro fodxa kpdxa)
                                clear fodxa kpdxa owndxa growdxa nildxa atdxa
                                go_wp2
                                go_meet
                                exact ⟨_, _, rfl, xs_18 hf0 h1q h2q, HEdxa.out.1, HEdxa.out.2⟩
                              · have HRdxb := Lib.hid (HS4.out.1.rot.rot)
                                go_wp2_with (at_builtin; refine wpList_append_own_at _ rfl _ _ 38 rfl (w.heap.size + 1) 5 i1 (.int .u8 0) 1 1 Tryd.underlying38 hi1 iz1 iy1 ib1 rfl (by decide) _ _ _ rfl (HRdxb.out.1.1.alloc _) ⟨W5.heap.size, 0, none⟩ 1 1 (vals .u8 [(-dx)]) rfl rfl (one_cell _ _ _ _) (vals_ok _ _) ?c3 ?c4 ?c5 ?_)
                                case c3 => unfold maxLen; omega
                                case c4 => omega
                                case c5 => have := HK4.out.2.2.2.size; simp; omega
                                intro vdxb wdxb owndxb growdxb nildxb atdxb
                                have fodxb := (four_step (news := [(-dx)]) HRdxb.out (bel_made W5 _ _) owndxb growdxb nildxb (by rw [World.size_alloc]; exact atdxb)).rot.rot
                                have kpdxb := HK4.out.step (bel_made W5 _ _) HRdxb.out.1 growdxb
                                have HEdxb := Lib.hid (And.intro fodxb kpdxb)
                                clear fodxb kpdxb owndxb growdxb nildxb atdxb
                                go_wp2
                                go_meet
                                exact ⟨_, _, rfl, xs_2 hf0 h1q (by omega), HEdxb.out.1, HEdxb.out.2⟩
                            · by_cases h3q : -256 < dx
                              · have h4q : ¬ dx < 256 := by omega
                                have HRdxc := Lib.hid (HS4.out.1.rot.rot)
                                go_wp2_with fail
                                refine (two_at _ _).mono ?_
                                rintro e wt ⟨rfl, rfl⟩
                                go_wp2_with (at_builtin; refine wpList_append_own_at _ rfl _ _ 38 rfl (w.heap.size + 1) 5 i1 (.int .u8 0) 1 1 Tryd.underlying38 hi1 iz1 iy1 ib1 rfl (by decide) _ _ _ rfl (HRdxc.out.1.1.alloc _) ⟨W5.heap.size, 0, none⟩ 2 2 (vals .u8 [hi dx, lo dx]) rfl rfl ?c1 ?c2 ?c3 ?c4 ?c5 ?_)
                                case c1 => exact cell_one_two_new W5 _ _ _
                                case c2 => exact vals_ok _ _
                                case c3 => unfold maxLen; omega
                                case c4 => omega
                                case c5 => have := HK4.out.2.2.2.size; simp; omega
                                intro vdxc wdxc owndxc growdxc nildxc atdxc
                                have fodxc := (four_step (news := [hi dx, lo dx]) HRdxc.out (bel_made W5 _ _) owndxc growdxc nildxc (by rw [World.size_alloc]; exact atdxc)).rot.rot
                                have kpdxc := HK4.out.step (bel_made W5 _ _) HRdxc.out.1 growdxc
                                have HEdxc := Lib.hid (And.intro fodxc kpdxc)
                                clear fodxc kpdxc owndxc growdxc nildxc atdxc
                                go_wp2
                                go_meet
                                exact ⟨_, _, rfl, xs_0 dx hf0, HEdxc.out.1, HEdxc.out.2⟩
                              · have HRdxe := Lib.hid (HS4.out.1.rot.rot)
                                go_wp2_with fail
                                refine (two_at _ _).mono ?_
                                rintro e wt ⟨rfl, rfl⟩
                                go_wp2_with (at_builtin; refine wpList_append_own_at _ rfl _ _ 38 rfl (w.heap.size + 1) 5 i1 (.int .u8 0) 1 1 Tryd.underlying38 hi1 iz1 iy1 ib1 rfl (by decide) _ _ _ rfl (HRdxe.out.1.1.alloc _) ⟨W5.heap.size, 0, none⟩ 2 2 (vals .u8 [hi dx, lo dx]) rfl rfl ?c1 ?c2 ?c3 ?c4 ?c5 ?_)
                                case c1 => exact cell_one_two_new W5 _ _ _
                                case c2 => exact vals_ok _ _
                                case c3 => unfold maxLen; omega
                                case c4 => omega
                                case c5 => have := HK4.out.2.2.2.size; simp; omega
                                intro vdxe wdxe owndxe growdxe nildxe atdxe
                                have fodxe := (four_step (news := [hi dx, lo dx]) HRdxe.out (bel_made W5 _ _) owndxe growdxe nildxe (by rw [World.size_alloc]; exact atdxe)).rot.rot
                                have kpdxe := HK4.out.step (bel_made W5 _ _) HRdxe.out.1 growdxe
                                have HEdxe := Lib.hid (And.intro fodxe kpdxe)
                                clear fodxe kpdxe owndxe growdxe nildxe atdxe
                                go_wp2
                                go_meet
                                exact ⟨_, _, rfl, xs_0 dx hf0, HEdxe.out.1, HEdxe.out.2⟩
                    case rest =>
                      obtain ⟨f1, bx, rfl, hf1, hfo3, hkp5⟩ := hcut
                      have hw1 := hf1.2.2.len
                      have hw2 := xw_le f1
                      have hxl3 : (xs2 ++ bx).length ≤ 50 := by rw [List.length_append]; omega
                      obtain ⟨xs3, hxs3⟩ : ∃ l, l = xs2 ++ bx := ⟨_, rfl⟩
                      rw [← hxs3] at hfo3 hxl3
                      have HX3 := Lib.hid hxs3
                      have HF5 := Lib.hid hfo3
                      have HK5 := Lib.hid hkp5
                      clear hfo3 hkp5 hxs3 hw1 hw2
                      obtain ⟨W6, hW6⟩ : ∃ W, W = wc := ⟨_, rfl⟩
                      subst hW6
                      go_upto_block 11 with (fail)
                      go_cut [26, 20] (fun s26 s20 wx => ∃ (f2 : Int) (by' : List Int), s26 = .int .u8 f2 ∧ Ys f1 f2 by' dy ∧ Four (w.heap.size + 1) wx o1 u18 u19 s20 OS fs2 xs3 (ys2 ++ by') ∧ Kp w.heap.size (W1.heap.size + 1 + 1 + 1) wr.heap.size [.slice (some ⟨g, 0, none⟩) k cg, .slice A4 0 c4] [.int .i64 mx, .int .i64 my, .bool mo] [.int .i64 x, .int .i64 y, .bool on] w wx)
                      case first =>
                        as_aux_lemma =>
                          cases b1
                          · have HRdyd := Lib.hid (HF5.out.rot.rot.rot)
                            go_wp2_with fail
                            refine (two_at _ _).mono ?_
                            rintro e wt ⟨rfl, rfl⟩
                            go_wp2_with (at_builtin; refine wpList_append_own_at _ rfl _ _ 38 rfl (w.heap.size + 1) 5 i1 (.int .u8 0) 1 1 Tryd.underlying38 hi1 iz1 iy1 ib1 rfl (by decide) _ _ _ rfl (HRdyd.out.1.1.alloc _) ⟨W6.heap.size, 0, none⟩ 2 2 (vals .u8 [hi dy, lo dy]) rfl rfl ?c1 ?c2 ?c3 ?c4 ?c5 ?_)
                            case c1 => exact cell_one_two_new W6 _ _ _
                            case c2 => exact vals_ok _ _
                            case c3 => unfold maxLen; omega
                            case c4 => omega
                            case c5 => have := HK5.out.2.2.2.size; simp; omega
                            intro vdyd wdyd owndyd growdyd nildyd atdyd
                            have fodyd := (four_step (news := [hi dy, lo dy]) HRdyd.out (bel_made W6 _ _) owndyd growdyd nildyd (by rw [World.size_alloc]; exact atdyd)).rot
                            have kpdyd := HK5.out.step (bel_made W6 _ _) HRdyd.out.1 growdyd
                            have HEdyd := Lib.hid (And.intro fodyd kpdyd)
                            clear fodyd kpdyd owndyd growdyd nildyd atdyd
                            go_wp2
                            go_meet
                            exact ⟨_, _, rfl, ys_0 dy hf1.1, HEdyd.out.1, HEdyd.out.2⟩
                          · by_cases h0q : dy = 0
                            · subst h0q
                              go_wp2
                              go_meet
                              exact ⟨_, [], rfl, ys_32 hf1.1, by rw [List.append_nil]; exact HF5.out, HK5.out⟩
                            · by_cases h1q : -256 < dy ∧ dy < 256
                              · by_cases h2q : 0 < dy
                                · have HRdya := Lib.hid (HF5.out.rot.rot.rot)
                                  go_wp2_with (at_builtin; refine wpList_append_own_at _ rfl _ _ 38 rfl (w.heap.size + 1) 5 i1 (.int .u8 0) 1 1 Tryd.underlying38 hi1 iz1 iy1 ib1 rfl (by decide) _ _ _ rfl (HRdya.out.1.1.alloc _) ⟨W6.heap.size, 0, none⟩ 1 1 (vals .u8 [dy]) rfl rfl (one_cell _ _ _ _) (vals_ok _ _) ?c3 ?c4 ?c5 ?_)
                                  case c3 => unfold maxLen; omega
                                  case c4 => omega
                                  case c5 => have := HK5.out.2.2.2.size; simp; omega
                                  intro vdya wdya owndya growdya nildya atdya
                                  have fodya := (four_step (news := [dy]) HRdya.out (bel_made W6 _ _) owndya growdya nildya (by rw [World.size_alloc]; exact atdya)).rot
                                  have kpdya := HK5.out.step (bel_made W6 _ _) HRdya.out.1 growdya
                                  have HEdya := Lib.hid (And.intro fodya kpdya)
                                  clear fodya kpdya owndya growdya nildya atdya
                                  go_wp2
                                  go_meet
                                  exact ⟨_, _, rfl, ys_36 hf1.1 h1q h2q, HEdya.out.1, HEdya.out.2⟩
                                · have HRdyb := Lib.hid (HF5.out.rot.rot.rot)
                                  go_wp2_with (at_builtin; refine wpList_append_own_at _ rfl _ _ 38 rfl (w.heap.size + 1) 5 i1 (.int .u8 0) 1 1 Tryd.underlying38 hi1 iz1 iy1 ib1 rfl (by decide) _ _ _ rfl (HRdyb.out.1.1.alloc _) ⟨W6.heap.size, 0, none⟩ 1 1 (vals .u8 [(-dy)]) rfl rfl (one_cell _ _ _ _) (vals_ok _ _) ?c3 ?c4 ?c5 ?_)
                                  case c3 => unfold maxLen; omega
                                  case c4 => omega
                                  case c5 => have := HK5.out.2.2.2.size; simp; omega
                                  intro vdyb wdyb owndyb growdyb nildyb atdyb
                                  have fodyb := (four_step (news := [(-dy)]) HRdyb.out (bel_made W6 _ _) owndyb growdyb nildyb (by rw [World.size_alloc]; exact atdyb)).rot
                                  have kpdyb := HK5.out.step (bel_made W6 _ _) HRdyb.out.1 growdyb
                                  have HEdyb := Lib.hid (And.intro fodyb kpdyb)
                                  clear fodyb kpdyb owndyb growdyb nildyb atdyb
                                  go_wp2
                                  go_meet
                                  exact ⟨_, _, rfl, ys_4 hf1.1 h1q (by omega), HEdyb.out.1, HEdyb.out.2⟩
                              · by_cases h3q : -256 < dy
                                · have h4q : ¬ dy < 256 := by omega
                                  have HRdyc := Lib.hid (HF5.out.rot.rot.rot)
                                  go_wp2_with fail
                                  refine (two_at _ _).mono ?_
                                  rintro e wt ⟨rfl, rfl⟩
                                  go_wp2_with (at_builtin; refine wpList_append_own_at _ rfl _ _ 38 rfl (w.heap.size + 1) 5 i1 (.int .u8 0) 1 1 Tryd.underlying38 hi1 iz1 iy1 ib1 rfl (by decide) _ _ _ rfl (HRdyc.out.1.1.alloc _) ⟨W6.heap.size, 0, none⟩ 2 2 (vals .u8 [hi dy, lo dy]) rfl rfl ?c1 ?c2 ?c3 ?c4 ?c5 ?_)
                                  case c1 => exact cell_one_two_new W6 _ _ _
                                  case c2 => exact vals_ok _ _
                                  case c3 => unfold maxLen; omega
                                  case c4 => omega
                                  case c5 => have := HK5.out.2.2.2.size; simp; omega
                                  intro vdyc wdyc owndyc growdyc nildyc atdyc
                                  have fodyc := (four_step (news := [hi dy, lo dy]) HRdyc.out (bel_made W6 _ _) owndyc growdyc nildyc (by rw [World.size_alloc]; exact atdyc)).rot
                                  have kpdyc := HK5.out.step (bel_made W6 _ _) HRdyc.out.1 growdyc
                                  have HEdyc := Lib.hid (And.intro fodyc kpdyc)
                                  clear fodyc kpdyc owndyc growdyc nildyc atdyc
                                  go_wp2
                                  go_meet
                                  exact ⟨_, _, rfl, ys_0 dy hf1.1, HEdyc.out.1, HEdyc.out.2⟩
                                · have HRdye := Lib.hid (HF5.out.rot.rot.rot)
                                  go_wp2_with fail
                                  refine (two_at _ _).mono ?_
                                  rintro e wt ⟨rfl, rfl⟩
                                  go_wp2_with (at_builtin; refine wpList_append_own_at _ rfl _ _ 38 rfl (w.heap.size + 1) 5 i1 (.int .u8 0) 1 1 Tryd.underlying38 hi1 iz1 iy1 ib1 rfl (by decide) _ _ _ rfl (HRdye.out.1.1.alloc _) ⟨W6.heap.size, 0, none⟩ 2 2 (vals .u8 [hi dy, lo dy]) rfl rfl ?c1 ?c2 ?c3 ?c4 ?c5 ?_)
                                  case c1 => exact cell_one_two_new W6 _ _ _
                                  case c2 => exact vals_ok _ _
                                  case c3 => unfold maxLen; omega
                                  case c4 => omega
                                  case c5 => have := HK5.out.2.2.2.size; simp; omega
                                  intro vdye wdye owndye growdye nildye atdye
                                  have fodye := (four_step (news := [hi dy, lo dy]) HRdye.out (bel_made W6 _ _) owndye growdye nildye (by rw [World.size_alloc]; exact atdye)).rot
                                  have kpdye := HK5.out.step (bel_made W6 _ _) HRdye.out.1 growdye
                                  have HEdye := Lib.hid (And.intro fodye kpdye)
                                  clear fodye kpdye owndye growdye nildye atdye
                                  go_wp2
                                  go_meet
                                  exact ⟨_, _, rfl, ys_0 dy hf1.1, HEdye.out.1, HEdye.out.2⟩
                      case rest =>
                        obtain ⟨f2, by', rfl, hf2, hfo4, hkp6⟩ := hcut
                        have hen : Enc (D2 ++ [dd]) (fs2 ++ [f2]) xs3 (ys2 ++ by') := by
                          rw [HX3.out]
                          exact HST2.out.2.push (by rw [← HXY.out.2.2, ← HXY.out.1, ← HFL2.out.1, ← HDE.out.1]; exact hf1) (by rw [← HXY.out.2.1, ← HFL2.out.2, ← HDE.out.2]; exact hf2)
                        have hw1 := hf2.2.2.len
                        have hw2 := yw_le f2
                        have hyl3 : (ys2 ++ by').length ≤ 50 := by rw [List.length_append]; omega
                        obtain ⟨ys3, hys3⟩ : ∃ l, l = ys2 ++ by' := ⟨_, rfl⟩
                        rw [← hys3] at hfo4 hyl3 hen
                        have HEN := Lib.hid hen
                        have HF6 := Lib.hid hfo4
                        have HK6 := Lib.hid hkp6
                        clear hfo4 hkp6 hen hys3 hw1 hw2 hf2
                        obtain ⟨W7, hW7⟩ : ∃ W, W = wc := ⟨_, rfl⟩
                        subst hW7
                        have HRf := Lib.hid (HF6.out.rot)
                        go_wp2_with (at_builtin; refine wpList_append_own_at _ rfl _ _ 38 rfl (w.heap.size + 1) 5 i1 (.int .u8 0) 1 1 Tryd.underlying38 hi1 iz1 iy1 ib1 rfl (by decide) _ _ _ rfl (HRf.out.1.1.alloc _) ⟨W7.heap.size, 0, none⟩ 1 1 (vals .u8 [f2]) rfl rfl (one_cell _ _ _ _) (vals_ok _ _) ?c3 ?c4 ?c5 ?_)
                        case c3 => unfold maxLen; omega
                        case c4 => omega
                        case c5 => have := HK6.out.2.2.2.size; simp; omega
                        intro vf wf ownf growf nilf atf
                        have fof := (four_step (news := [f2]) HRf.out (bel_made W7 _ _) ownf growf nilf (by rw [World.size_alloc]; exact atf)).rot.rot.rot
                        have kpf := HK6.out.step (bel_made W7 _ _) HRf.out.1 growf
                        have HEf := Lib.hid (And.intro fof kpf)
                        clear fof kpf ownf growf nilf atf
                        have z0 := HEf.out.2.2.2.1.cell (i := 0) rfl
                        have z1 := HEf.out.2.2.2.1.cell (i := 1) rfl
                        have z2 := HEf.out.2.2.2.1.cell (i := 2) rfl
                        have y0 := HEf.out.2.2.1.cell (i := 0) rfl
                        have y1 := HEf.out.2.2.1.cell (i := 1) rfl
                        have y2 := HEf.out.2.2.1.cell (i := 2) rfl
                        have yf := HEf.out.2.2.1.frozen
                        have hgw := HG1.out.lt
                        go_wp2
                        go_roundw
                        case rel =>
                          refine ⟨jj + 1, fs2 ++ [f2], xs3, ys3, x, y, on, by omega, by go_num, ⟨HEf.out.1.set3 HEf.out.2.2.1 _ _ _, by rw [HNX.out]; exact HEN.out⟩, by rw [HNX.out, lastd_snoc]; exact ⟨HXY.out.1, HXY.out.2.1⟩, hxy.1, hxy.2, HEf.out.2.set3 (by omega) (by omega) _ _ _⟩
                        case measure => simp [intOf]; omega
            · obtain rfl : jj = M := by omega
              rw [List.take_of_length_le (show c.length ≤ jj by rw [← HM.out]; exact Nat.le_refl _)] at hst2 hfl2
              have HF := Lib.hid (And.intro hst2 (And.intro hfl2 hkp2))
              clear hst2 hfl2 hkp2
              go_wp2
              go_roundw
              case rel => exact ⟨j + 1, fs2, xs2, ys2, mx, my, mo, by omega, by go_num, by rw [HDT.out]; exact HF.out.1, by rw [HDT.out]; exact HF.out.2.1, hmx, hmy, HF.out.2.2⟩
              case measure => simp [intOf]; omega
        · obtain rfl : k = j := by omega
          have hall : (cs.take k).flatten = cs.flatten := by rw [List.take_of_length_le (by rw [← HN.out]; exact Nat.le_refl _)]
          rw [hall] at hst
          have hd3 := dots_le cs HK.out
          rw [← HN.out, ← dots_flat] at hd3
          have hlen := hst.2.len
          have hle := hst.2.le
          have hF18 : fs.length ≤ 18 := by omega
          have hle : xs.length ≤ 36 ∧ ys.length ≤ 36 := by omega
          obtain ⟨F, hF⟩ : ∃ F, F = fs.length := ⟨_, rfl⟩
          obtain ⟨gf, cf, hvf, _, _, hgf, _⟩ := own_open hst.1.2.1.1 hst.1.2.1.2
          obtain ⟨gx, cx, hvx, _, _, hgx, _⟩ := own_open hst.1.2.2.1.1 hst.1.2.2.1.2
          obtain ⟨gy, cy, hvy, _, _, hgy, _⟩ := own_open hst.1.2.2.2.1.1 hst.1.2.2.2.1.2
          subst hvf hvx hvy
          have HST := Lib.hid hst
          have HKP := Lib.hid hkp
          rw [← hF] at hF18
          have HF := Lib.hid hF
          clear hst hkp hfl hd3 hlen hall hF
          rw [← HF.out]
          obtain ⟨b2, hb2⟩ : ∃ b, (bits BinOp.and IntKind.i64 (ways : Int) 2 != 0) = b := ⟨_, rfl⟩
          go_wp2
          go_loopw [14, 29] (fun o i wq => ∃ (kk : Nat) (rl : List Int), kk ≤ F ∧ i = .int .i64 kk ∧ Four (w.heap.size + 1) wq o (.slice (some ⟨gf, 0, none⟩) F cf) (.slice (some ⟨gx, 0, none⟩) xs.length cx) (.slice (some ⟨gy, 0, none⟩) ys.length cy) (OS ++ rl) fs xs ys ∧ Rf (OS ++ rl) OS.length (fs.take kk) (OS.length + rl.length) ∧ rl.length ≤ 2 * kk ∧ Byt rl ∧ Kp w.heap.size (W1.heap.size + 1 + 1 + 1) (W1.heap.size + 1 + 1 + 1) [.slice (some ⟨g, 0, none⟩) k cg, .slice A4 0 c4] [.int .i64 lx, .int .i64 ly, .bool lob] [.int .i64 lx, .int .i64 ly, .bool lob] w wq) (fun _ i _ => F - (intOf i).toNat)
          case atStart => exact ⟨0, [], Nat.zero_le _, rfl, by rw [List.append_nil, HF.out]; exact HST.out.1, .done _, Nat.zero_le _, byt_nil, HKP.out⟩
          case round =>
            obtain ⟨kk, rl, hkk, rfl, hfo, hrf, hrl, hrb, hkp⟩ := hrel
            by_cases hkF : kk < F
            · obtain ⟨f, hf⟩ : ∃ f, f = fs.getD kk 0 := ⟨_, rfl⟩
              have hyf : YF f := by rw [hf]; exact HST.out.2.byt.2.2 _ (SegM.getD_mem _ _ _ (by rw [← HF.out]; exact hkF))
              have HFO := Lib.hid hfo
              have HRF := Lib.hid hrf
              have HRB := Lib.hid hrb
              have HKQ := Lib.hid hkp
              have HFF := Lib.hid hf
              clear hfo hrf hrb hkp hf
              go_upto_block 14 with (fail)
              go_cut [30] (fun s30 wx => ∃ mm : Nat, 0 < mm ∧ kk + mm ≤ F ∧ s30 = .int .i64 mm ∧ (∀ t, t < mm → fs.getD (kk + t) 0 = f) ∧ Four (w.heap.size + 1) wx u14 (.slice (some ⟨gf, 0, none⟩) F cf) (.slice (some ⟨gx, 0, none⟩) xs.length cx) (.slice (some ⟨gy, 0, none⟩) ys.length cy) (OS ++ rl) fs xs ys ∧ Kp w.heap.size (W1.heap.size + 1 + 1 + 1) (W1.heap.size + 1 + 1 + 1) [.slice (some ⟨g, 0, none⟩) k cg, .slice A4 0 c4] [.int .i64 lx, .int .i64 ly, .bool lob] [.int .i64 lx, .int .i64 ly, .bool lob] w wx)
              case first =>
                as_aux_lemma =>
                  go_wp2
                  go_loopw [30] (fun s30 wx => ∃ mm : Nat, 0 < mm ∧ kk + mm ≤ F ∧ s30 = .int .i64 mm ∧ (∀ t, t < mm → fs.getD (kk + t) 0 = f) ∧ Four (w.heap.size + 1) wx u14 (.slice (some ⟨gf, 0, none⟩) F cf) (.slice (some ⟨gx, 0, none⟩) xs.length cx) (.slice (some ⟨gy, 0, none⟩) ys.length cy) (OS ++ rl) fs xs ys ∧ Kp w.heap.size (W1.heap.size + 1 + 1 + 1) (W1.heap.size + 1 + 1 + 1) [.slice (some ⟨g, 0, none⟩) k cg, .slice A4 0 c4] [.int .i64 lx, .int .i64 ly, .bool lob] [.int .i64 lx, .int .i64 ly, .bool lob] w wx) (fun m _ => F - (intOf m).toNat)
                  case atStart => exact ⟨1, by omega, by omega, rfl, (fun t ht => by
                    obtain rfl : t = 0 := by omega
                    exact HFF.out.symm), HFO.out, HKQ.out⟩
                  case round =>
                    obtain ⟨mm, hm0, hmF, rfl, hall, hfo2, hkp2⟩ := hrel
                    have c1 := hfo2.at1.get (j := kk) (by rw [← HF.out]; omega)
                    rw [← HFF.out, Nat.zero_add] at c1
                    have HFO2 := Lib.hid hfo2
                    have HKP2 := Lib.hid hkp2
                    have HALL := Lib.hid hall
                    clear hfo2 hkp2 hall
                    have g5 : (mm : Int) < 256 := by omega
                    cases b2
                    · go_wp2_with fail
                      go_quiet (fail)
                      go_wp2
                      go_meet
                      exact ⟨mm, hm0, hmF, rfl, HALL.out, HFO2.out.below (RowG.bel_draws (Below.refl _ _) _), HKP2.out.below (RowG.bel_draws (Below.refl _ _) _)⟩
                    · by_cases hm1 : kk + mm < F
                      · have c2 := HFO2.out.at1.get (j := kk + mm) (by rw [← HF.out]; omega)
                        rw [Nat.zero_add] at c2
                        have g1 : decide ((kk : Int) + (mm : Int) < (F : Int)) = true := by simp; omega
                        have g0 : (kk : Int) + (mm : Int) < (F : Int) := by omega
                        have gw : IntKind.i64.wrap ((kk : Int) + (mm : Int)) = (kk : Int) + (mm : Int) := IntWalk.i64_in _ (by omega)
                        have gk : (kk : Int) < (F : Int) := by omega
                        have gz : 0 ≤ (kk : Int) + (mm : Int) := by omega
                        have gt : ((kk : Int) + (mm : Int)).toNat = kk + mm := by omega
                        obtain ⟨v, hv⟩ : ∃ v, v = fs.getD (kk + mm) 0 := ⟨_, rfl⟩
                        rw [← hv] at c2
                        have HV := Lib.hid hv
                        clear hv
                        by_cases hvf : v = f
                        · have g2 : (v == f) = true := by simpa using hvf
                          have HVF := Lib.hid hvf
                          clear hvf
                          go_wp2_with fail
                          go_quiet (fail)
                          go_wp2
                          go_roundw
                          case rel => exact ⟨mm + 1, by omega, by omega, by go_num, (fun t ht => by
                            by_cases htm : t < mm
                            · exact HALL.out t htm
                            · obtain rfl : t = mm := by omega
                              rw [← HV.out, HVF.out]), HFO2.out.below (RowG.bel_draws (Below.refl _ _) _), HKP2.out.below (RowG.bel_draws (Below.refl _ _) _)⟩
                          case measure => simp [intOf]; omega
                        · have g2 : (v == f) = false := by simpa using hvf
                          go_wp2_with fail
                          go_quiet (fail)
                          go_wp2
                          go_meet
                          exact ⟨mm, hm0, hmF, rfl, HALL.out, HFO2.out.below (RowG.bel_draws (Below.refl _ _) _), HKP2.out.below (RowG.bel_draws (Below.refl _ _) _)⟩
                      · have g1 : decide ((kk : Int) + (mm : Int) < (F : Int)) = false := by simp; omega
                        go_wp2_with fail
                        go_quiet (fail)
                        go_wp2
                        go_meet
                        exact ⟨mm, hm0, hmF, rfl, HALL.out, HFO2.out.below (RowG.bel_draws (Below.refl _ _) _), HKP2.out.below (RowG.bel_draws (Below.refl _ _) _)⟩
              case rest =>
                as_aux_lemma =>
                  obtain ⟨mm, hm0, hmF, rfl, hall, hfo2, hkp2⟩ := hcut
                  have c1 := hfo2.at1.get (j := kk) (by rw [← HF.out]; omega)
                  rw [← HFF.out, Nat.zero_add] at c1
                  have HFO2 := Lib.hid hfo2
                  have HKP2 := Lib.hid hkp2
                  have HALL := Lib.hid hall
                  clear hfo2 hkp2 hall
                  have hol2 : (OS ++ rl).length ≤ 60 := by rw [List.length_append]; omega
                  by_cases hmm1 : mm = 1
                  · subst hmm1
                    go_wp2_with (at_builtin; refine wpList_append_own_at _ rfl _ _ 38 rfl (w.heap.size + 1) 5 i1 (.int .u8 0) 1 1 Tryd.underlying38 hi1 iz1 iy1 ib1 rfl (by decide) _ _ _ rfl (HFO2.out.1.1.alloc _) ⟨wc.heap.size, 0, none⟩ 1 1 (vals .u8 [f]) rfl rfl ?c1 ?c2 ?c3 ?c4 ?c5 ?_)
                    case c1 => exact one_cell _ _ _ _
                    case c2 => exact vals_ok _ _
                    case c3 => unfold maxLen; omega
                    case c4 => omega
                    case c5 => have := HKP2.out.2.2.2.size; simp; omega
                    intro vp wp ownp growp nilp atp
                    have fop := four_step (news := [f]) HFO2.out (bel_made wc _ _) (by rw [List.length_append, hOL]; exact ownp) growp nilp (by rw [World.size_alloc]; exact atp)
                    have kpp := HKP2.out.step (bel_made wc _ _) HFO2.out.1 growp
                    have HEp := Lib.hid (And.intro fop kpp)
                    clear fop kpp ownp growp nilp atp
                    go_wp2
                    go_roundw
                    case rel => exact ⟨kk + 1, rl ++ [f], by omega, by go_num, by rw [← List.append_assoc]; exact HEp.out.1, by rw [take_rep HALL.out (by rw [← HF.out]; omega)]; exact HRF.out.push1 hyf, by rw [List.length_append]; simp; omega, HRB.out.app (byt_one (by have := hyf.1; have := hyf.2.1; omega)), HEp.out.2⟩
                    case measure => simp [intOf]; omega
                  · obtain ⟨m1, rfl⟩ : ∃ m1, mm = m1 + 1 := ⟨mm - 1, by omega⟩
                    have hmm2 : 1 < ((m1 + 1 : Nat) : Int) := by omega
                    have gw1 : ((m1 + 1 : Nat) : Int) - 1 = (m1 : Int) := by omega
                    have gw2 : IntKind.u8.wrap (m1 : Int) = (m1 : Int) := by rw [IntKind.wrap_u8]; omega
                    go_wp2_with (at_builtin; refine wpList_append_own_at _ rfl _ _ 38 rfl (w.heap.size + 1) 5 i1 (.int .u8 0) 1 1 Tryd.underlying38 hi1 iz1 iy1 ib1 rfl (by decide) _ _ _ rfl (HFO2.out.1.1.alloc _) ⟨wc.heap.size, 0, none⟩ 2 2 (vals .u8 [or8 f 8, (m1 : Int)]) rfl rfl ?c1 ?c2 ?c3 ?c4 ?c5 ?_)
                    case c1 => exact cell_one_two_new wc _ _ _
                    case c2 => exact vals_ok _ _
                    case c3 => unfold maxLen; omega
                    case c4 => omega
                    case c5 => have := HKP2.out.2.2.2.size; simp; omega
                    intro vq wq ownq growq nilq atq
                    have foq := four_step (news := [or8 f 8, (m1 : Int)]) HFO2.out (bel_made wc _ _) (by rw [List.length_append, hOL]; exact ownq) growq nilq (by rw [World.size_alloc]; exact atq)
                    have kpq := HKP2.out.step (bel_made wc _ _) HFO2.out.1 growq
                    have HEq := Lib.hid (And.intro foq kpq)
                    clear foq kpq ownq growq nilq atq
                    go_wp2
                    go_roundw
                    case rel => exact ⟨kk + (m1 + 1), rl ++ [or8 f 8, (m1 : Int)], by omega, by go_num, by rw [← List.append_assoc]; exact HEq.out.1, by rw [take_rep HALL.out (by rw [← HF.out]; omega)]; exact HRF.out.pushm m1 hyf, by rw [List.length_append]; simp; omega, HRB.out.app (byt_pair (or8_8 hyf).1 (by omega)), HEq.out.2⟩
                    case measure => simp [intOf]; omega
            · as_aux_lemma =>
                obtain rfl : kk = F := by omega
                have hte : fs.take kk = fs := List.take_of_length_le (by rw [← HF.out]; exact Nat.le_refl _)
                rw [hte] at hrf
                have hol2 : (OS ++ rl).length ≤ 60 := by rw [List.length_append]; omega
                have HFO := Lib.hid hfo
                have HRF := Lib.hid hrf
                have HRB := Lib.hid hrb
                have HKQ := Lib.hid hkp
                have hsz := hkp.1.lt
                have hlx2 := hle.1
                have hly2 := hle.2
                clear hfo hrf hrb hkp hte
                go_wp2_with (at_builtin; refine wpList_append_own_at _ rfl _ _ 38 rfl (w.heap.size + 1) 5 i1 (.int .u8 0) 1 1 Tryd.underlying38 hi1 iz1 iy1 ib1 rfl (by decide) _ _ _ rfl HFO.out.1.1 ⟨gx, 0, none⟩ xs.length cx (vals .u8 xs) rfl ?c0 ?c1 ?c2 ?c3 ?c4 ?c5 ?_)
                case c0 => simp [vals]
                case c1 => exact at_add HFO.out.at2
                case c2 => exact vals_ok _ _
                case c3 => unfold maxLen; omega
                case c4 => omega
                case c5 => omega
                intro v1 w3 own1 grow1 nil1 at1
                have fo1 := four_step (news := xs) HFO.out (Below.refl _ _) (by rw [List.length_append, hOL]; exact own1) grow1 (fun h => HFO.out.1.2 (by simp_all)) at1
                have kp1 := HKQ.out.step (Below.refl _ _) HFO.out.1 grow1
                have HE1 := Lib.hid (And.intro fo1 kp1)
                have hsz1 := kp1.1.lt
                have hol3 : (OS ++ rl ++ xs).length ≤ 100 := by rw [List.length_append]; omega
                clear fo1 kp1 own1 grow1 nil1 at1
                go_wp2_with (at_builtin; refine wpList_append_own_at _ rfl _ _ 38 rfl (w.heap.size + 1) 5 i1 (.int .u8 0) 1 1 Tryd.underlying38 hi1 iz1 iy1 ib1 rfl (by decide) _ _ _ rfl HE1.out.1.1.1 ⟨gy, 0, none⟩ ys.length cy (vals .u8 ys) rfl ?c0 ?c1 ?c2 ?c3 ?c4 ?c5 ?_)
                case c0 => simp [vals]
                case c1 => exact at_add HE1.out.1.at3
                case c2 => exact vals_ok _ _
                case c3 => unfold maxLen; omega
                case c4 => omega
                case c5 => omega
                intro v2 w4 own2 grow2 nil2 at2
                have own3 : w4.ownsRow (w.heap.size + 1) 5 1 v2 ((OS ++ rl ++ xs).length + ys.length) (vals .u8 (OS ++ rl ++ xs) ++ vals .u8 ys) := by rw [List.append_assoc OS rl xs, List.length_append, List.length_append, hOL]; exact own2
                have fo2 := four_step (news := ys) HE1.out.1 (Below.refl _ _) own3 grow2 (fun h => HE1.out.1.1.2 (by simp_all)) at2
                have kp2 := HE1.out.2.step (Below.refl _ _) HE1.out.1.1 grow2
                have HE2 := Lib.hid (And.intro fo2.1 kp2.2.2.2)
                clear fo2 kp2 own2 grow2 nil2 at2
                have hby := HST.out.2.byt
                have hfin : Byt (OS ++ rl ++ xs ++ ys) := ((hOSb.app HRB.out).app hby.1).app hby.2.1
                have hll : (OS ++ rl ++ xs ++ ys).length ≤ 200 := by rw [List.length_append]; omega
                have HZ := Lib.hid (And.intro hfin hll)
                clear hby hfin hll
                go_wp2
                exact bodyPost_ret (v := v2) (by simp [results, Tryd.results7, go_sem]) rfl ⟨⟨v2, OS ++ rl ++ xs ++ ys, rfl, ⟨RowG.own_base' HE2.out.1.1 (Nat.le_succ _), HE2.out.1.2, HZ.out.1⟩, ⟨a, b, c, d, rl, fs, xs, ys, by rw [HBY1.out], by rw [← HN.out, ← hOL, ← HBY1.out]; exact HRF.out, HST.out.2, HZ.out.1⟩, by have := HZ.out.2; omega⟩, HE2.out.2⟩
end Go.Proofs.YtdeaodgcdacleaaDoor.DatA
