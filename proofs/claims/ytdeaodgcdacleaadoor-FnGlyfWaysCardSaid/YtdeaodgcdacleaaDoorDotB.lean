/- Contract of the reference's box of a glyph's dots: four numbers of 16 bits. -/
import Derived.Test.YtdeaodgcdacleaaDoorBoxO
import Derived.Test.YtdeaodgcdacleaaDoorGlyM
namespace Go.Proofs.YtdeaodgcdacleaaDoor.DotB
open Go.ChangeShapes Go.WideShapes Go.ChangeAt Go.RowKit
open Lst Mem SegM BoxO GlyM
open RowG (open_row own_isT own_ne own_set)

theorem fmin {α : Type} (f : α → Int) (lo : Int) : ∀ (Q : List α) (a : Int), lo ≤ a → (∀ p ∈ Q, lo ≤ f p) → lo ≤ Q.foldl (fun a p => min a (f p)) a ∧ Q.foldl (fun a p => min a (f p)) a ≤ a
  | [], a, h, _ => ⟨h, Int.le_refl _⟩
  | p :: Q, a, h, hq => by
    have hp := hq p (by simp)
    obtain ⟨h1, h2⟩ := fmin f lo Q (min a (f p)) (by omega) (fun q hm => hq q (by simp [hm]))
    exact ⟨h1, by simp only [List.foldl_cons]; omega⟩
theorem fmax {α : Type} (f : α → Int) (hi : Int) : ∀ (Q : List α) (a : Int), a ≤ hi → (∀ p ∈ Q, f p ≤ hi) → a ≤ Q.foldl (fun a p => max a (f p)) a ∧ Q.foldl (fun a p => max a (f p)) a ≤ hi
  | [], a, h, _ => ⟨Int.le_refl _, h⟩
  | p :: Q, a, h, hq => by
    have hp := hq p (by simp)
    obtain ⟨h1, h2⟩ := fmax f hi Q (max a (f p)) (by omega) (fun q hm => hq q (by simp [hm]))
    exact ⟨by simp only [List.foldl_cons]; omega, h2⟩
theorem pts_bd {S : List Sg} (hS : ∀ s ∈ S, Sgw s) : ∀ p ∈ pts S, (-32768 ≤ p.1 ∧ p.1 ≤ 32767) ∧ (-32768 ≤ p.2 ∧ p.2 ≤ 32767) := by
  intro p hp
  unfold pts at hp
  obtain ⟨s, hs, hps⟩ := List.mem_flatMap.1 hp
  exact (hS s hs).2 p hps
theorem q0_bd {S : List Sg} (hS : ∀ s ∈ S, Sgw s) : (-2147483648 ≤ q0 (pts S) lx ∧ q0 (pts S) lx ≤ 2147483647) ∧ (-2147483648 ≤ q0 (pts S) ly ∧ q0 (pts S) ly ≤ 2147483647) ∧ (-2147483648 ≤ q0 (pts S) hx ∧ q0 (pts S) hx ≤ 2147483647) ∧ (-2147483648 ≤ q0 (pts S) hy ∧ q0 (pts S) hy ≤ 2147483647) := by
  have hb := pts_bd hS
  have h1 := fmin (fun p : Pt => p.1) (-32768) (pts S) 2147483647 (by omega) (fun p hp => (hb p hp).1.1)
  have h2 := fmin (fun p : Pt => p.2) (-32768) (pts S) 2147483647 (by omega) (fun p hp => (hb p hp).2.1)
  have h3 := fmax (fun p : Pt => p.1) 32767 (pts S) (-2147483648) (by omega) (fun p hp => (hb p hp).1.2)
  have h4 := fmax (fun p : Pt => p.2) 32767 (pts S) (-2147483648) (by omega) (fun p hp => (hb p hp).2.2)
  unfold q0
  by_cases he : pts S = []
  · simp [he]
  · simp only [if_neg he]
    unfold lx ly hx hy
    omega

theorem sblk_grown {b : Nat} {t : TypeId} {cs : List Value} {w w' : World} {r : Option Nat} (h : SegM.Blk b t cs w) (hg : w.grownBy w' r) (hne : r ≠ some b) : SegM.Blk b t cs w' := by
  unfold SegM.Blk
  rw [hg.block b h.lt (fun e => hne e.symm)]
  exact h
theorem ptinfo : (Tryd.prog.info? 92).map (fun i => (i.zero, i.size, i.bytes)) = some (some (.agg #[.int .i64 0, .int .i64 0]), 2, 16) := by kernel_rfl
theorem dot_cells {T : Tys} {w : World} {B q : Nat} {c : List Dot} (h : RowG.Row w B q T.dot (c.flatMap dotc)) {j : Nat} (hj : j < c.length) :
    w.cell? ⟨q, j * 3, none⟩ = some (.int .i64 (c.getD j (0, 0, false)).1) ∧ w.cell? ⟨q, j * 3 + 1, none⟩ = some (.int .i64 (c.getD j (0, 0, false)).2.1) ∧ w.cell? ⟨q, j * 3 + 2, none⟩ = some (.bool (c.getD j (0, 0, false)).2.2) := by
  have h0 := RowG.at_flat dotc_len (0, 0, false) h.2.1 hj (r := 0) (by decide) rfl
  have h1 := RowG.at_flat dotc_len (0, 0, false) h.2.1 hj (r := 1) (by decide) rfl
  have h2 := RowG.at_flat dotc_len (0, 0, false) h.2.1 hj (r := 2) (by decide) rfl
  rw [Nat.mul_comm 3 j] at h0 h1 h2
  exact ⟨h0, h1, h2⟩
def PtOk (P : List Pt) : Prop := ∀ p ∈ P, (-32768 ≤ p.1 ∧ p.1 ≤ 32767) ∧ (-32768 ≤ p.2 ∧ p.2 ≤ 32767)

set_option maxHeartbeats 3200000 in
set_option maxRecDepth 4000 in
theorem dotsBox_any (T : Tys) (B : Nat) (vc vr : Value) (cs : List (List Dot)) (w : World) (hc : Cons T w B vc cs) (hvr : ∃ A n c, vr = .slice A n c) (h0 : 0 < cs.length) (h3 : cs.length ≤ 3) (hok : ∀ c ∈ cs, ConOk c) :
    Calls Tryd.prog 13 #[.agg #[vc, vr]] w fun e w' => (∃ a b c d : Int, e = .returned (.agg #[.int .i64 a, .int .i64 b, .int .i64 c, .int .i64 d]) ∧ (-2147483648 ≤ a ∧ a ≤ 2147483647) ∧ (-2147483648 ≤ b ∧ b ≤ 2147483647) ∧ (-2147483648 ≤ c ∧ c ≤ 2147483647) ∧ (-2147483648 ≤ d ∧ d ≤ 2147483647)) ∧ Below w.heap.size w w' := by
  obtain ⟨i1, hi1, iz1, iy1, ib1⟩ := info_parts ptinfo
  obtain ⟨A4, n4, c4, rfl⟩ := hvr
  rcases hc with ⟨_, h⟩ | ⟨g, cg, rfl, ht, hB, hcon⟩
  · rw [h] at h0; simp at h0
  obtain ⟨N, hN⟩ : ∃ N, N = cs.length := ⟨_, rfl⟩
  have hgl := ht.lt
  rw [← hN] at h0 h3 ⊢
  have HN := Lib.hid hN
  have HC := Lib.hid hcon
  have HK := Lib.hid hok
  clear hN hcon hok ht
  go_enter Tryd.func13, Tryd.ntmps13
  go_wp2
  go_loopw [12] (fun i wr => ∃ (k : Nat) (P : List Pt) (va : Value), k ≤ N ∧ i = .int .i64 k ∧ P.length ≤ 6 * k ∧ PtOk P ∧ (0 < k → 0 < P.length) ∧ Blk (w.heap.size + 1 + 1) 89 [.int .i64 0, va] wr ∧ Blk (w.heap.size + 1) 32 [.int .i64 0, .int .i64 0, .int .i64 0, .int .i64 0] wr ∧ wr.ownsRow (w.heap.size + 3) 92 2 va P.length (P.flatMap (ptc .i64)) ∧ Below w.heap.size w wr) (fun i _ => N - (intOf i).toNat)
  case atStart =>
    have b2 := SegM.Blk.new_ (w.alloc (.cells #[.slice (some ⟨g, 0, none⟩) N cg, .slice A4 n4 c4] 55)) #[.int .i64 0, .int .i64 0, .int .i64 0, .int .i64 0] 32
    have b3 := SegM.Blk.new_ ((w.alloc (.cells #[.slice (some ⟨g, 0, none⟩) N cg, .slice A4 n4 c4] 55)).alloc (.cells #[.int .i64 0, .int .i64 0, .int .i64 0, .int .i64 0] 32)) #[.int .i64 0, .slice none 0 0] 89
    simp only [World.size_alloc] at b2 b3
    exact ⟨0, [], _, Nat.zero_le _, rfl, Nat.le_refl _, (fun p h => by cases h), (fun h => absurd h (by omega)), b3, SegM.Blk.keep b2 (bel_made _ _ _), World.ownsRow_nil _ _ _ _, ((bel_made w _ _).alloc (by simp) _).alloc (by simp; omega) _⟩
  case round =>
    obtain ⟨k, P, va, hk, rfl, hPl, hPo, hP0, hs, hr, hor, hbel⟩ := hrel
    by_cases hlt : k < N
    · obtain ⟨q, cq, a1, a2, _⟩ := HC.out k (by rw [← HN.out]; exact hlt)
      have hcm : cs.getD k [] ∈ cs := SegM.getD_mem _ _ _ (by rw [← HN.out]; exact hlt)
      obtain ⟨c, hce⟩ : ∃ c, c = cs.getD k [] := ⟨_, rfl⟩
      rw [← hce] at a1 a2 hcm
      have hco := HK.out c hcm
      obtain ⟨M, hM⟩ : ∃ M, M = c.length := ⟨_, rfl⟩
      have hM6 : 0 < M ∧ M ≤ 6 := by rw [hM]; exact ⟨hco.1, hco.2.1⟩
      rw [← hM] at a1
      have d0 := (hbel.cell (p := ⟨g, k, none⟩) hgl).trans a1
      have hql := a2.1.lt
      have HA2 := Lib.hid a2
      have HCO := Lib.hid hco
      have HM := Lib.hid hM
      obtain ⟨W, hW⟩ : ∃ W, W = wr := ⟨_, rfl⟩
      subst hW
      clear a1 a2 hce hcm hco hM
      go_wp2
      go_loopw [18] (fun i wq => ∃ (j : Nat) (P2 : List Pt) (va2 : Value), j ≤ M ∧ i = .int .i64 j ∧ P2.length ≤ 6 * k + j ∧ PtOk P2 ∧ (0 < k + j → 0 < P2.length) ∧ Blk (w.heap.size + 1 + 1) 89 [.int .i64 0, va2] wq ∧ Blk (w.heap.size + 1) 32 [.int .i64 0, .int .i64 0, .int .i64 0, .int .i64 0] wq ∧ wq.ownsRow (w.heap.size + 3) 92 2 va2 P2.length (P2.flatMap (ptc .i64)) ∧ Below w.heap.size w wq) (fun i _ => M - (intOf i).toNat)
      case atStart => exact ⟨0, P, va, Nat.zero_le _, rfl, by omega, hPo, fun h => hP0 (by omega), hs, hr, hor, hbel⟩
      case round =>
        obtain ⟨j, P2, va2, hj, rfl, hPl2, hPo2, hP02, hs2, hr2, hor2, hbel2⟩ := hrel
        by_cases hjM : j < M
        · obtain ⟨u0, u1, u2⟩ := dot_cells HA2.out (j := j) (by rw [← HM.out]; exact hjM)
          have hdm := HCO.out.2.2.1 (c.getD j (0, 0, false)) (SegM.getD_mem _ _ _ (by rw [← HM.out]; exact hjM))
          obtain ⟨d, hd⟩ : ∃ d, d = c.getD j (0, 0, false) := ⟨_, rfl⟩
          rw [← hd] at u0 u1 u2 hdm
          have e0 := (hbel2.cell (p := ⟨q, j * 3, none⟩) hql).trans u0
          have e1 := (hbel2.cell (p := ⟨q, j * 3 + 1, none⟩) hql).trans u1
          have e2 := (hbel2.cell (p := ⟨q, j * 3 + 2, none⟩) hql).trans u2
          obtain ⟨x, hx⟩ : ∃ x, x = d.1 := ⟨_, rfl⟩
          obtain ⟨y, hy⟩ : ∃ y, y = d.2.1 := ⟨_, rfl⟩
          obtain ⟨on, hon⟩ : ∃ y, y = d.2.2 := ⟨_, rfl⟩
          rw [← hx] at e0
          rw [← hy] at e1
          rw [← hon] at e2
          have hxy : (-4096 ≤ x ∧ x ≤ 4096) ∧ (-4096 ≤ y ∧ y ≤ 4096) := by rw [hx, hy]; exact ⟨hdm.1.1, hdm.2.1⟩
          have s1 := keep_new (o := .cells #[.int .i64 x, .int .i64 y, .bool on] 72) (hs2.cell (i := 1) rfl)
          have HS2 := Lib.hid hs2
          have HR2 := Lib.hid hr2
          have HO2 := Lib.hid hor2
          have HB2 := Lib.hid hbel2
          clear hs2 hr2 hor2 hbel2 u0 u1 u2 hd hx hy hon hdm
          go_wp2_with (at_builtin; refine wpList_append_own _ rfl _ _ 87 rfl (w.heap.size + 3) 92 i1 (.agg #[.int .i64 0, .int .i64 0]) 2 16 Tryd.underlying87 hi1 iz1 iy1 ib1 rfl (by decide) _ _ _ rfl ((HO2.out.alloc _).alloc _) ⟨wr.heap.size + 1, 0, none⟩ 1 1 [.int .i64 x, .int .i64 y] rfl rfl ?c1 ?c2 ?c3 ?c4 ?c5 ?_)
          case c1 =>
            have h := RowG.two_cells (RowG.Blk.new_ (wr.alloc (.cells #[.int .i64 x, .int .i64 y, .bool on] 72)) #[.int .i64 x, .int .i64 y] 92)
            rw [World.size_alloc] at h
            exact h
          case c2 => exact RowG.two_ints x y
          case c3 => unfold maxLen; omega
          case c4 => omega
          case c5 => have := HS2.out.lt; simp; omega
          intro v7 w7 own7 grow7 nil7
          have hv7 : v7 ≠ .slice none 0 0 := fun h => by first | exact nil7 h | exact absurd (nil7.1 h).2 (by omega)
          obtain ⟨g7, c7, hv7', _, _, _, _⟩ := open_row own7 hv7
          subst hv7'
          have hal : Below wr.heap.size wr ((wr.alloc (.cells #[.int .i64 x, .int .i64 y, .bool on] 72)).alloc (.cells #[.int .i64 x, .int .i64 y] 92)) := (bel_made wr _ _).alloc (by simp) _
          have kb : ∀ {b : Nat} {t : TypeId} {cs : List Value}, SegM.Blk b t cs wr → b < w.heap.size + 3 → SegM.Blk b t cs w7 := fun h hb => sblk_grown (SegM.Blk.keep h hal) grow7 (own_ne HO2.out (.inl hb))
          have s7 := kb HS2.out (by omega)
          have r7 := kb HR2.out (by omega)
          have o7 : w7.ownsRow (w.heap.size + 3) 92 2 (.slice (some ⟨g7, 0, none⟩) (P2.length + 1) c7) (P2 ++ [(x, y)]).length ((P2 ++ [(x, y)]).flatMap (ptc .i64)) := by
            rw [List.length_append, List.flatMap_append, List.flatMap_cons, List.flatMap_nil, List.append_nil]
            exact own7
          have hb7 : Below w.heap.size w w7 := ((HB2.out.alloc HB2.out.size _).alloc (by have := HB2.out.size; simp; omega) _).grown grow7 (by have := HB2.out.size; simp; omega) (fun g hg => by have := (own_isT HO2.out hg).2; omega)
          have gc := s7.cell (i := 1) rfl
          have gfz := s7.frozen 1
          have HF := Lib.hid (And.intro o7 (And.intro s7 (And.intro r7 hb7)))
          clear o7 s7 r7 hb7 own7 grow7 nil7 hv7 hal kb
          go_wp2
          go_roundw
          case rel =>
            refine ⟨j + 1, P2 ++ [(x, y)], _, by omega, by go_num, by rw [List.length_append, List.length_singleton]; omega, fun p hp => ?_, fun _ => by rw [List.length_append, List.length_singleton]; omega, HF.out.2.1.set_ 1 _, HF.out.2.2.1.other (by omega), own_set HF.out.1 (by simp <;> omega) _, HF.out.2.2.2.setCell (p := ⟨w.heap.size + 1 + 1, 1, none⟩) (by simp; omega) _⟩
            rcases List.mem_append.1 hp with h | h
            · exact hPo2 p h
            · simp at h; subst h; exact ⟨by omega, by omega⟩
          case measure => simp [intOf]; omega
        · obtain rfl : j = M := by omega
          have HF := Lib.hid (And.intro hs2 (And.intro hr2 (And.intro hor2 hbel2)))
          clear hs2 hr2 hor2 hbel2 hs hr hor hbel
          go_wp2
          go_roundw
          case rel => exact ⟨k + 1, P2, va2, by omega, by go_num, by omega, hPo2, fun _ => hP02 (by omega), HF.out.1, HF.out.2.1, HF.out.2.2.1, HF.out.2.2.2⟩
          case measure => simp [intOf]; omega
    · obtain rfl : k = N := by omega
      have hP1 := hP0 h0
      obtain ⟨gv, cv, hva, hAv, _, hgv, _⟩ := open_row hor (fun h => by
        rcases hor.2 with ⟨_, h2⟩ | ⟨g, cap, cur, h2, _⟩
        · omega
        · rw [h] at h2; cases h2)
      subst hva
      have x0 := hs.cell (i := 0) rfl
      have x1 := hs.cell (i := 1) rfl
      have hS : ∀ s ∈ [((0 : Int), P)], Sgw s := fun s hs => by simp at hs; subst hs; exact ⟨⟨hP1, by show P.length ≤ 1000; omega⟩, hPo⟩
      have HBX := Lib.hid (boxof_any (some ⟨wr.heap.size, 0, none⟩) 1 1 [((0 : Int), P)] (wr.alloc (.cells #[.int .i64 0, .slice (some ⟨gv, 0, none⟩) P.length cv] 89)) rfl (by omega) hS (fun _ => ⟨_, rfl, by simp, fun i hi => by
        match i, hi with
        | 0, _ =>
          have hb := SegM.Blk.new_ wr #[.int .i64 0, .slice (some ⟨gv, 0, none⟩) P.length cv] 89
          exact ⟨hb.cell rfl, gv, cv, hb.cell rfl, hAv.keep (bel_made _ _ _), by simp; omega⟩⟩))
      obtain ⟨a, ha⟩ : ∃ x, x = q0 (pts [((0 : Int), P)]) lx := ⟨_, rfl⟩
      obtain ⟨b, hb⟩ : ∃ x, x = q0 (pts [((0 : Int), P)]) ly := ⟨_, rfl⟩
      obtain ⟨c, hc⟩ : ∃ x, x = q0 (pts [((0 : Int), P)]) SegM.hx := ⟨_, rfl⟩
      obtain ⟨d, hd⟩ : ∃ x, x = q0 (pts [((0 : Int), P)]) SegM.hy := ⟨_, rfl⟩
      have hF : (box64 (pts [((0 : Int), P)])).toArray = #[.int .i64 a, .int .i64 b, .int .i64 c, .int .i64 d] := by rw [box64, ← ha, ← hb, ← hc, ← hd]; rfl
      have hbd := q0_bd hS
      rw [← ha, ← hb, ← hc, ← hd] at hbd
      rw [hF] at HBX
      have HR := Lib.hid hr
      have HB := Lib.hid hbel
      clear hs hr hor hbel hAv ha hb hc hd hF hS
      go_wp2_with fail
      refine HBX.out.mono ?_
      rintro e w5 ⟨rfl, hb5⟩
      have hr5 := SegM.Blk.keep (SegM.Blk.keep HR.out (bel_made wr _ _)) hb5
      have HB5 := Lib.hid ((HB.out.alloc HB.out.size _).trans (hb5.mono (by have := HB.out.size; simp; omega)))
      have y0 := hr5.cell (i := 0) rfl
      have y1 := hr5.cell (i := 1) rfl
      have y2 := hr5.cell (i := 2) rfl
      have y3 := hr5.cell (i := 3) rfl
      have yf := hr5.frozen
      clear hr5 hb5
      go_wp2
      exact bodyPost_ret (v := .agg #[.int .i64 a, .int .i64 b, .int .i64 c, .int .i64 d]) (by simp [results, Tryd.results13, go_sem, y0, y1, y2, y3]) rfl ⟨⟨a, b, c, d, rfl, hbd⟩, set4_bel HB5.out (by omega)⟩
end Go.Proofs.YtdeaodgcdacleaaDoor.DotB
