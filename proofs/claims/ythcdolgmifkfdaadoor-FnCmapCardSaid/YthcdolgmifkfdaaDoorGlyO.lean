/- Contract of the making of a glyph out of numbers. -/
import Derived.Test.YthcdolgmifkfdaaDoorGlyN
import Derived.Test.YthcdolgmifkfdaaDoorTail
import Derived.Deep.DeepCutAuto
namespace Go.Proofs.YthcdolgmifkfdaaDoor.GlyO
open Go.ChangeShapes Go.WideShapes Go.ChangeAt Go.RowKit
open Lst Mem RowG GlyM GlyN
set_option linter.unusedSimpArgs false

def T : Tys := ⟨75, 73, 72, 53⟩
/-- a glyph is made: what was there before is as it was -/
def MadeG (Gs : List Gl) (w : World) (e : Ending) (w' : World) : Prop := ∃ vc vr G, e = .returned (.agg #[vc, vr]) ∧ GlyIn T w' w.heap.size vc vr G ∧ GlyOk Gs G ∧ Below w.heap.size w w'
theorem dinfo : (Tryd.prog.info? 75).map (fun i => (i.zero, i.size, i.bytes)) = some (some (.agg #[.int .i64 0, .int .i64 0, .bool false]), 3, 24) := by kernel_rfl
theorem cinfo : (Tryd.prog.info? 73).map (fun i => (i.zero, i.size, i.bytes)) = some (some (.slice none 0 0), 1, 24) := by kernel_rfl
theorem rinfo : (Tryd.prog.info? 72).map (fun i => (i.zero, i.size, i.bytes)) = some (some (.agg #[.int .i64 0, .int .i64 0, .int .i64 0, .int .i64 0, .int .i64 0]), 5, 40) := by kernel_rfl

theorem mod4096 (v : Int) (h : 8 ∣ v) : (-4096 ≤ v.tmod 4096 ∧ v.tmod 4096 ≤ 4096) ∧ 8 ∣ v.tmod 4096 := by
  have h1 := Int.lt_tmod_of_pos v (b := 4096) (by omega)
  have h2 := Int.tmod_lt_of_pos v (b := 4096) (by omega)
  have h3 := Int.tmod_add_mul_tdiv v 4096
  omega
theorem mod2048 (v : Int) : -2048 ≤ v.tmod 2048 ∧ v.tmod 2048 ≤ 2048 := by
  have h1 := Int.lt_tmod_of_pos v (b := 2048) (by omega)
  have h2 := Int.tmod_lt_of_pos v (b := 2048) (by omega)
  omega
theorem grown_drew {w w' : World} {r : Option Nat} (h : w.grownBy w' r) : w.grownBy w'.drew r := by
  obtain ⟨a, b, c, d, e⟩ := h
  exact ⟨a, b, c, d, e⟩
theorem grown_below {w w1 w2 : World} {r : Option Nat} (h : w.grownBy w1 r) (hb : Below w1.heap.size w1 w2) : w.grownBy w2 r := by
  obtain ⟨a, b, c, d, e⟩ := h
  obtain ⟨a', b', c', d', e'⟩ := hb
  exact ⟨a'.trans a, b'.trans b, c'.trans c, Nat.le_trans d d', fun i hi hne => (e' i (Nat.lt_of_lt_of_le hi d)).trans (e i hi hne)⟩
theorem row_cells {b : Nat} {t : TypeId} {xs : List Value} {w : World} (h : Blk b t xs w) : ∀ q u, xs[q]? = some u → w.cell? ((⟨b, 0, none⟩ : Addr).add q) = some u := fun q u hq => by
  rw [Addr.add_lit, Nat.zero_add]
  exact h.cell hq
theorem dot_ok (d : Dot) : ∀ u ∈ dotc d, u.oneCell' = true := fun u hu => by simp [dotc] at hu; rcases hu with rfl | rfl | rfl <;> rfl

theorem same_set {T : Tys} {w : World} {b i B : Nat} {t : TypeId} {cs : List Value} (h : Blk b t cs w) (h1 : t ≠ T.dot) (h2 : t ≠ T.con) (h3 : t ≠ T.ref) (v : Value) : Same T w (w.setCell ⟨b, i, none⟩ v) B := fun g _ hg => by
  refine Below.heap_setCell _ _ _ _ (fun e => ?_)
  have hb : IsT w b t := ⟨_, h⟩
  have e' : g = b := e
  subst e'
  rcases hg with hg | hg | hg
  · exact (hb.ne hg h1) rfl
  · exact (hb.ne hg h2) rfl
  · exact (hb.ne hg h3) rfl

set_option maxHeartbeats 60000000 in
set_option maxRecDepth 4000 in
theorem glyphOf_any (n : Int) (A LA : Option Addr) (m cap l lc B : Nat) (ms : List Int) (Gs : List Gl) (w : World) (hn : 0 ≤ n ∧ n ≤ 4294967295) (hs : Src w A m ms) (hl : l = Gs.length) (hl2 : l ≤ 100)
    (hL : 0 < l → ∃ b, LA = some ⟨b, 0, none⟩ ∧ b < w.heap.size ∧ GlyAt T w B b Gs) :
    Calls Tryd.prog 10 #[.int .u32 n, .slice A m cap, .slice LA l lc] w (MadeG Gs w) := by
  obtain ⟨i1, hi1, iz1, iy1, ib1⟩ := info_parts dinfo
  obtain ⟨i2, hi2, iz2, iy2, ib2⟩ := info_parts cinfo
  obtain ⟨i3, hi3, iz3, iy3, ib3⟩ := info_parts rinfo
  obtain ⟨z, hz⟩ : ∃ z, z = n.tmod 5 := ⟨_, rfl⟩
  have hz1 : 0 ≤ z ∧ z ≤ 4 := by
    have h1 := Int.tmod_nonneg (a := n) 5 hn.1
    have h2 := Int.tmod_lt_of_pos n (b := 5) (by omega)
    omega
  have hz' := hz.symm
  have wz : IntKind.u32.wrap z = z := IntWalk.u32_in _ (by omega)
  have HS := Lib.hid hs
  have HL := Lib.hid hl
  have HLL := Lib.hid hL
  clear hz hs hl hL
  by_cases h0 : z = 0
  · subst h0
    go_enter Tryd.func10, Tryd.ntmps10
    go_wp2
    exact bodyPost_ret (v := .agg #[.slice none 0 0, .slice none 0 0]) (by simp [results, Tryd.results10, go_sem]) rfl ⟨_, _, ([], []), rfl, ⟨.inl ⟨rfl, rfl⟩, .inl ⟨rfl, rfl⟩⟩, .inl ⟨rfl, by simp, fun c h => by cases h⟩, (((bel_made w _ _).alloc (by simp) _).alloc (by simp; omega) _).alloc (by simp; omega) _⟩
  · have e0 : (z == 0) = false := by simpa using h0
    by_cases h4 : z = 4
    · subst h4
      obtain ⟨K, hK⟩ : ∃ K : Nat, 1 + n / 8 % 3 = (K : Int) := ⟨(1 + n / 8 % 3).toNat, by omega⟩
      have hK3 : 1 ≤ K ∧ K ≤ 3 := by omega
      obtain ⟨t0, ht0⟩ : ∃ x, x = n / 256 % 97 := ⟨_, rfl⟩
      have ht1 : 0 ≤ t0 ∧ t0 ≤ 96 := by omega
      have ht0' := ht0.symm
      clear ht0
      go_enter Tryd.func10, Tryd.ntmps10
      go_wp2
      go_loopw [34] (fun i wr => ∃ (k : Nat) (rs : List Ref) (t : Int) (vr : Value), k ≤ K ∧ i = .int .i64 k ∧ rs.length ≤ k ∧ (∀ r ∈ rs, RefOk Gs r) ∧ (0 ≤ t ∧ t ≤ 97 + 2 * (k : Int)) ∧ Blk (w.heap.size + 1 + 1 + 1) 3 [.int .i64 t] wr ∧ Blk (w.heap.size + 1 + 1) 53 [.slice none 0 0, vr] wr ∧ Blk (w.heap.size + 1) 53 [.slice none 0 0, .slice none 0 0] wr ∧ Blk w.heap.size 47 [.slice A m cap] wr ∧ wr.ownsRow (w.heap.size + 4) 72 5 vr rs.length (rs.flatMap refc) ∧ Below w.heap.size w wr) (fun i _ => K - (intOf i).toNat)
      case atStart =>
        have b1 := Blk.new_ w #[.slice A m cap] 47
        have b2 := Blk.new_ (w.alloc (.cells #[.slice A m cap] 47)) #[.slice none 0 0, .slice none 0 0] 53
        have b3 := Blk.new_ ((w.alloc (.cells #[.slice A m cap] 47)).alloc (.cells #[.slice none 0 0, .slice none 0 0] 53)) #[.slice none 0 0, .slice none 0 0] 53
        have b4 := Blk.new_ (((w.alloc (.cells #[.slice A m cap] 47)).alloc (.cells #[.slice none 0 0, .slice none 0 0] 53)).alloc (.cells #[.slice none 0 0, .slice none 0 0] 53)) #[.int .i64 t0] 3
        simp only [World.size_alloc] at b2 b3 b4
        exact ⟨0, [], t0, _, Nat.zero_le _, rfl, Nat.le_refl _, (fun c h => by cases h), by omega, b4, b3.keep (bel_made _ _ _), (b2.keep (bel_made _ _ _)).keep (bel_made _ _ _), ((b1.keep (bel_made _ _ _)).keep (bel_made _ _ _)).keep (bel_made _ _ _), World.ownsRow_nil _ _ _ _, (((bel_made w _ _).alloc (by simp) _).alloc (by simp; omega) _).alloc (by simp; omega) _⟩
      case round =>
        clear ht0' hz'
        obtain ⟨k, rs, t, vr, hk, rfl, hrl, hro, ht, hat, hg, hr, hnb, hor, hbel⟩ := hrel
        have HK := Lib.hid hK
        clear hK
        by_cases hlt : k < K
        · obtain ⟨y, hy⟩ : ∃ y, y = n / 2 ^ (4 + k) := ⟨_, rfl⟩
          have hy1 : 0 ≤ y ∧ y ≤ 4294967295 := by
            have h1 := Int.ediv_nonneg (a := n) (b := 2 ^ (4 + k)) hn.1 (Int.le_of_lt (Int.pow_pos (by omega)))
            have h2 := Int.ediv_le_self (a := n) (2 ^ (4 + k)) hn.1
            omega
          have hy' := hy.symm
          have y1 : IntKind.i64.wrap y = y := IntWalk.i64_in _ (by omega)
          obtain ⟨X, hX1⟩ : ∃ X : Nat, X = y.toNat % (l + 1) := ⟨_, rfl⟩
          have hXl : X ≤ l := by have := Nat.mod_lt y.toNat (show 0 < l + 1 by omega); omega
          have hX2 : y % ((l : Int) + 1) = (X : Int) := by
            rw [hX1]
            have h1 : y = ((y.toNat : Nat) : Int) := by omega
            rw [h1, show ((l : Int) + 1) = ((l + 1 : Nat) : Int) by omega, ← Int.natCast_emod, Int.toNat_natCast]
          have hX3 : y.tmod ((l : Int) + 1) = (X : Int) := by rw [Int.tmod_eq_emod_of_nonneg hy1.1]; exact hX2
          have hl1 : ¬ ((l : Int) + 1 = 0) := by omega
          have y2 : IntKind.i64.wrap (X : Int) = (X : Int) := IntWalk.i64_in _ (by omega)
          clear hy hX1
          by_cases hXe : X = l
          · have e1 : ((X : Int) == (l : Int)) = true := by rw [hXe]; simp
            have HE := Lib.hid (And.intro hat (And.intro hg (And.intro hr (And.intro hnb (And.intro hor hbel)))))
            clear hXe hat hg hr hnb hor hbel
            go_wp2
            go_roundw
            case rel => exact ⟨k + 1, rs, t, vr, by omega, by go_num, by omega, hro, by omega, HE.out.1, HE.out.2.1, HE.out.2.2.1, HE.out.2.2.2.1, HE.out.2.2.2.2.1, HE.out.2.2.2.2.2⟩
            case measure => simp [intOf]; omega
          · have e1 : ((X : Int) == (l : Int)) = false := by simp; omega
            obtain ⟨lb, rfl, hlb, hga⟩ := HLL.out (by omega)
            obtain ⟨vc', vr', q1, q2, q3, q4⟩ := hga X (by rw [← HL.out]; omega)
            obtain ⟨A3, r3, c3, hv3, hr3⟩ : ∃ A3 r3 c3, vr' = .slice A3 r3 c3 ∧ r3 = (Gs.getD X ([], [])).2.length := by
              rcases q4 with ⟨h, h'⟩ | ⟨g, c, h, _⟩
              · exact ⟨_, _, _, h, by rw [h']; rfl⟩
              · exact ⟨_, _, _, h, rfl⟩
            subst hv3
            have d1 := (hbel.cell (p := ⟨lb, X * 2 + 1, none⟩) hlb).trans q2
            have hXlt : (X : Int) < (l : Int) := by omega
            have HR3 := Lib.hid hr3
            clear q1 q2 q3 q4 hr3
            by_cases h30 : 0 < r3
            · have e2 : (0 : Int) < (r3 : Int) := by omega
              have HE := Lib.hid (And.intro hat (And.intro hg (And.intro hr (And.intro hnb (And.intro hor hbel)))))
              clear hat hg hr hnb hor hbel
              go_wp2
              go_roundw
              case rel => exact ⟨k + 1, rs, t, vr, by omega, by go_num, by omega, hro, by omega, HE.out.1, HE.out.2.1, HE.out.2.2.1, HE.out.2.2.2.1, HE.out.2.2.2.2.1, HE.out.2.2.2.2.2⟩
              case measure => simp [intOf]; omega
            · have e2 : ¬ ((0 : Int) < (r3 : Int)) := by omega
              obtain ⟨W, hW⟩ : ∃ W, W = wr := ⟨_, rfl⟩
              subst hW
              have hatW := hat.lt
              go_wp2_with fail
              refine (next_any (w.heap.size + 1 + 1 + 1) w.heap.size m cap A ms _ W w (by omega) hat (hnb.cell (i := 0) rfl) (by omega) HS.out hbel (by omega)).mono ?_
              rintro e w1 ⟨va, rfl, hva, hat1, hg1⟩
              have nb1 := blk_grown hnb hg1 (by intro h; injection h with h; omega)
              have g1 := blk_grown hg hg1 (by intro h; injection h with h; omega)
              have r1 := blk_grown hr hg1 (by intro h; injection h with h; omega)
              have or1 := hor.kept hg1 (.inr (own_ne hor (.inl (by omega))))
              have hb1 := hbel.grown hg1 hbel.size (fun g hg => by cases hg; omega)
              have hm1 := mod2048 va
              obtain ⟨x1, hx1⟩ : ∃ x1, x1 = va.tmod 2048 := ⟨_, rfl⟩
              rw [← hx1] at hm1
              have hf1 := hx1.symm
              have wf1 : IntKind.i64.wrap x1 = x1 := IntWalk.i64_in _ (by omega)
              have hsz1 := hg1.size
              clear hx1 hat hg hr hnb hor hbel hg1
              go_wp2_with fail
              clear hf1
              refine (next_any (w.heap.size + 1 + 1 + 1) w.heap.size m cap A ms _ w1 w (by omega) hat1 (nb1.cell (i := 0) rfl) (by omega) HS.out hb1 (by omega)).mono ?_
              rintro e w2 ⟨vb, rfl, hvb, hat2, hg2⟩
              have nb2 := blk_grown nb1 hg2 (by intro h; injection h with h; omega)
              have g2 := blk_grown g1 hg2 (by intro h; injection h with h; omega)
              have r2 := blk_grown r1 hg2 (by intro h; injection h with h; omega)
              have or2 := or1.kept hg2 (.inr (own_ne or1 (.inl (by omega))))
              have hb2 := hb1.grown hg2 hb1.size (fun g hg => by cases hg; omega)
              have hm2 := mod2048 vb
              obtain ⟨x2, hx2⟩ : ∃ x2, x2 = vb.tmod 2048 := ⟨_, rfl⟩
              rw [← hx2] at hm2
              have hf2 := hx2.symm
              have wf2 : IntKind.i64.wrap x2 = x2 := IntWalk.i64_in _ (by omega)
              have hsz2 := hg2.size
              have HE := Lib.hid (And.intro hat2 (And.intro g2 (And.intro r2 (And.intro nb2 (And.intro or2 hb2)))))
              clear hx2 hat1 g1 r1 nb1 or1 hb1 hg2 hat2 g2 r2 nb2 or2 hb2
              go_upto_if 70 with (fail)
              clear hf2
              go_cut [] (fun wx => ∃ s1 s2 : Int, (-8 ≤ s1 ∧ s1 ≤ 7) ∧ (-8 ≤ s2 ∧ s2 ≤ 7) ∧ Blk w2.heap.size 72 [.int .i64 X, .int .i64 x1, .int .i64 x2, .int .i64 s1, .int .i64 s2] wx ∧ Below w2.heap.size w2 wx)
              case first =>
                go_wp2
                · go_meet
                  exact ⟨n / 2097152 % 16 - 8, n / 2097152 % 16 - 8, by omega, by omega, Blk.new_ w2 _ _, bel_made w2 _ _⟩
                · go_meet
                  exact ⟨4, 4, by omega, by omega, Blk.new_ w2 _ _, bel_made w2 _ _⟩
              case rest =>
                obtain ⟨s1, s2, hs1, hs2, hrb, hbx⟩ := hcut
                have c0 := hrb.cell (i := 0) rfl
                have c1 := hrb.cell (i := 1) rfl
                have c2 := hrb.cell (i := 2) rfl
                have c3 := hrb.cell (i := 3) rfl
                have c4 := hrb.cell (i := 4) rfl
                have cf := hrb.frozen
                obtain ⟨w4, hw4⟩ : ∃ w4, w4 = wc := ⟨_, rfl⟩
                subst hw4
                go_upto_if 83 with (fail)
                go_cut [] (fun wx => ∃ s2 : Int, (-8 ≤ s2 ∧ s2 ≤ 7) ∧ Blk w2.heap.size 72 [.int .i64 X, .int .i64 x1, .int .i64 x2, .int .i64 s1, .int .i64 s2] wx ∧ Below w2.heap.size w2 wx)
                case first =>
                  go_wp2
                  · go_meet
                    exact ⟨n / 134217728 % 16 - 8, by omega, hrb.set_ 4 _, hbx.setCell (p := ⟨w2.heap.size, 4, none⟩) (Nat.le_refl _) _⟩
                  · go_meet
                    exact ⟨s2, hs2, hrb, hbx⟩
                case rest =>
                  clear c0 c1 c2 c3 c4 cf hrb hbx hs2
                  obtain ⟨s3, hs3, hrb, hbx⟩ := hcut
                  have c0 := hrb.cell (i := 0) rfl
                  have c1 := hrb.cell (i := 1) rfl
                  have c2 := hrb.cell (i := 2) rfl
                  have c3 := hrb.cell (i := 3) rfl
                  have c4 := hrb.cell (i := 4) rfl
                  have a5 := HE.out.1.keep hbx
                  have g5 := HE.out.2.1.keep hbx
                  have r5 := HE.out.2.2.1.keep hbx
                  have n5 := HE.out.2.2.2.1.keep hbx
                  have o5 := own_keep HE.out.2.2.2.2.1 hbx
                  have b5 := HE.out.2.2.2.2.2.trans (hbx.mono HE.out.2.2.2.2.2.size)
                  have gc1 := g5.cell (i := 1) rfl
                  have gf := g5.frozen 1
                  have hrlen : rs.length ≤ 3 := by omega
                  have HX := Lib.hid o5
                  have HA5 := Lib.hid a5
                  have HG5 := Lib.hid g5
                  have HR5 := Lib.hid r5
                  have HN5 := Lib.hid n5
                  have HB5 := Lib.hid b5
                  clear HE a5 g5 r5 n5 o5 b5 hrb hbx
                  go_wp2_with (at_builtin; refine wpList_append_own _ rfl _ _ 51 rfl (w.heap.size + 4) 72 i3 (.agg #[.int .i64 0, .int .i64 0, .int .i64 0, .int .i64 0, .int .i64 0]) 5 40 Tryd.underlying51 hi3 iz3 iy3 ib3 rfl (by decide) _ _ _ rfl (HX.out.alloc _) ⟨wc.heap.size, 0, none⟩ 1 1 (refc (X, x1, x2, s1, s3)) rfl rfl ?c1 ?c2 ?c3 ?c4 ?c5 ?_)
                  case c1 => exact row_cells (Blk.new_ wc #[.int .i64 X, .int .i64 x1, .int .i64 x2, .int .i64 s1, .int .i64 s3] 72)
                  case c2 => intro u hu; simp [refc] at hu; rcases hu with rfl | rfl | rfl | rfl | rfl <;> rfl
                  case c3 => unfold maxLen; omega
                  case c4 => omega
                  case c5 => have := HG5.out.lt; have := HA5.out.lt; simp; omega
                  intro v7 w7 own7 grow7 nil7
                  have hv7 : v7 ≠ .slice none 0 0 := fun h => by first | exact nil7 h | exact absurd (nil7.1 h).2 (by omega)
                  obtain ⟨g7, c7, hv7', _, _, _, _⟩ := open_row own7 hv7
                  subst hv7'
                  have hal := bel_made wc #[.int .i64 X, .int .i64 x1, .int .i64 x2, .int .i64 s1, .int .i64 s3] 72
                  have kb : ∀ {b : Nat} {t : TypeId} {cs : List Value}, Blk b t cs wc → b < w.heap.size + 4 → Blk b t cs w7 := fun h hb => blk_grown (h.keep hal) grow7 (own_ne HX.out (.inl hb))
                  have a7 := kb HA5.out (by omega)
                  have g7' := kb HG5.out (by omega)
                  have r7 := kb HR5.out (by omega)
                  have n7 := kb HN5.out (by omega)
                  have o7 : w7.ownsRow (w.heap.size + 4) 72 5 (.slice (some ⟨g7, 0, none⟩) (rs.length + 1) c7) (rs ++ [((X : Int), x1, x2, s1, s3)]).length ((rs ++ [((X : Int), x1, x2, s1, s3)]).flatMap refc) := by
                    rw [List.length_append, List.flatMap_append, List.flatMap_cons, List.flatMap_nil, List.append_nil]
                    exact own7
                  have hb7 : Below w.heap.size w w7 := (HB5.out.alloc HB5.out.size _).grown grow7 (by have := HB5.out.size; simp; omega) (fun g hg => by have := (own_isT (HX.out.alloc (.cells #[.int .i64 X, .int .i64 x1, .int .i64 x2, .int .i64 s1, .int .i64 s3] 72)) hg).2; omega)
                  have gc := g7'.cell (i := 1) rfl
                  have gfz := g7'.frozen 1
                  have hrok : RefOk Gs ((X : Int), x1, x2, s1, s3) := ⟨⟨X, rfl, by rw [← HL.out]; omega, by have h := HR3.out; rw [show r3 = 0 by omega] at h; exact List.length_eq_zero_iff.1 h.symm⟩, hm1, hm2, hs1, hs3⟩
                  have HF := Lib.hid (And.intro o7 (And.intro a7 (And.intro g7' (And.intro r7 (And.intro n7 (And.intro hb7 hrok))))))
                  clear o7 a7 g7' r7 n7 hb7 own7 grow7 nil7 hv7 hal kb hrok
                  go_wp2
                  go_roundw
                  case rel =>
                    refine ⟨k + 1, rs ++ [((X : Int), x1, x2, s1, s3)], t + 1 + 1, _, by omega, by go_num, by rw [List.length_append, List.length_singleton]; omega, fun c hc => ?_, by omega, HF.out.2.1.other (by omega), HF.out.2.2.1.set_ 1 _, HF.out.2.2.2.1.other (by omega), HF.out.2.2.2.2.1.other (by omega), own_set HF.out.1 (by simp <;> omega) _, HF.out.2.2.2.2.2.1.setCell (p := ⟨w.heap.size + 1 + 1, 1, none⟩) (by simp; omega) _⟩
                    rcases List.mem_append.1 hc with h | h
                    · exact hro c h
                    · simp at h; subst h; exact HF.out.2.2.2.2.2.2
                  case measure => simp [intOf]; omega
        · obtain rfl : k = K := by omega
          obtain ⟨A2, n2, c2, hv2⟩ : ∃ A2 n2 c2, vr = .slice A2 n2 c2 := by
            rcases hor.2 with ⟨h, _⟩ | ⟨g, cap, cur, h, _⟩
            · exact ⟨_, _, _, h⟩
            · exact ⟨_, _, _, h⟩
          subst hv2
          have g0 := hg.cell (i := 0) rfl
          have g1 := hg.cell (i := 1) rfl
          have r0 := hr.cell (i := 0) rfl
          have r1 := hr.cell (i := 1) rfl
          have rf := hr.frozen
          have HO := Lib.hid hor
          have HB := Lib.hid hbel
          have HRO := Lib.hid hro
          clear hat hg hr hnb hor hbel hro
          go_wp2
          exact bodyPost_ret (v := .agg #[.slice none 0 0, .slice A2 n2 c2]) (by simp [results, Tryd.results10, go_sem, r0, r1]) rfl ⟨_, _, ([], rs), rfl, ⟨.inl ⟨rfl, rfl⟩, (Refs.of_own (T := T) (own_set (own_set HO.out (by simp <;> omega) _) (by simp <;> omega) _)).mono (by omega)⟩, .inr ⟨rfl, by simp; omega, HRO.out⟩, (HB.out.setCell (p := ⟨w.heap.size + 1, 0, none⟩) (by simp) _).setCell (p := ⟨w.heap.size + 1, 1, none⟩) (by simp) _⟩
    · have e4 : (z == 4) = false := by simpa using h4
      obtain ⟨K, hK⟩ : ∃ K : Nat, 1 + n / 8 % 3 = (K : Int) := ⟨(1 + n / 8 % 3).toNat, by omega⟩
      have hK3 : 1 ≤ K ∧ K ≤ 3 := by omega
      obtain ⟨t0, ht0⟩ : ∃ x, x = n / 256 % 97 := ⟨_, rfl⟩
      have ht1 : 0 ≤ t0 ∧ t0 ≤ 96 := by omega
      have ht0' := ht0.symm
      clear ht0
      go_enter Tryd.func10, Tryd.ntmps10
      go_wp2
      obtain ⟨N, hN⟩ : ∃ N, N = w.heap.size := ⟨_, rfl⟩
      go_loopw [103] (fun i wr => ∃ (k : Nat) (cs : List (List Dot)) (t : Int) (vc : Value), k ≤ K ∧ i = .int .i64 k ∧ cs.length = k ∧ (∀ c ∈ cs, ConOk c) ∧ (0 ≤ t ∧ t ≤ 97 + 12 * (k : Int)) ∧ Blk (w.heap.size + 1 + 1 + 1) 3 [.int .i64 t] wr ∧ Blk (w.heap.size + 1 + 1) 53 [vc, .slice none 0 0] wr ∧ Blk (w.heap.size + 1) 53 [.slice none 0 0, .slice none 0 0] wr ∧ Blk w.heap.size 47 [.slice A m cap] wr ∧ OwnCons T wr (w.heap.size + 4) vc cs ∧ Below w.heap.size w wr) (fun i _ => K - (intOf i).toNat)
      case atStart =>
        have b1 := Blk.new_ w #[.slice A m cap] 47
        have b2 := Blk.new_ (w.alloc (.cells #[.slice A m cap] 47)) #[.slice none 0 0, .slice none 0 0] 53
        have b3 := Blk.new_ ((w.alloc (.cells #[.slice A m cap] 47)).alloc (.cells #[.slice none 0 0, .slice none 0 0] 53)) #[.slice none 0 0, .slice none 0 0] 53
        have b4 := Blk.new_ (((w.alloc (.cells #[.slice A m cap] 47)).alloc (.cells #[.slice none 0 0, .slice none 0 0] 53)).alloc (.cells #[.slice none 0 0, .slice none 0 0] 53)) #[.int .i64 t0] 3
        simp only [World.size_alloc] at b2 b3 b4
        exact ⟨0, [], t0, _, Nat.zero_le _, rfl, rfl, (fun c h => by cases h), by omega, b4, b3.keep (bel_made _ _ _), (b2.keep (bel_made _ _ _)).keep (bel_made _ _ _), ((b1.keep (bel_made _ _ _)).keep (bel_made _ _ _)).keep (bel_made _ _ _), OwnCons.nil_ _ _, (((bel_made w _ _).alloc (by simp) _).alloc (by simp; omega) _).alloc (by simp; omega) _⟩
      case round =>
        clear ht0' hz' hN
        obtain ⟨k, cs, t, vc, hk, rfl, hcl, hco, ht, hat, hg, hr, hnb, hoc, hbel⟩ := hrel
        have HK := Lib.hid hK
        clear hK
        by_cases hlt : k < K
        · obtain ⟨y, hy⟩ : ∃ y, y = n / 2 ^ (5 + 2 * k) := ⟨_, rfl⟩
          have hy1 : 0 ≤ y ∧ y ≤ 4294967295 := by
            have h1 := Int.ediv_nonneg (a := n) (b := 2 ^ (5 + 2 * k)) hn.1 (Int.le_of_lt (Int.pow_pos (by omega)))
            have h2 := Int.ediv_le_self (a := n) (2 ^ (5 + 2 * k)) hn.1
            omega
          have hy' := hy.symm
          have y1 : IntKind.i64.wrap y = y := IntWalk.i64_in _ (by omega)
          obtain ⟨J, hJ⟩ : ∃ J : Nat, 1 + y % 6 = (J : Int) := ⟨(1 + y % 6).toNat, by omega⟩
          have hJ6 : 1 ≤ J ∧ J ≤ 6 := by omega
          have y2 : IntKind.i64.wrap (J : Int) = (J : Int) := IntWalk.i64_in _ (by omega)
          clear hy
          go_wp2
          obtain ⟨W, hW⟩ : ∃ W, W = wr := ⟨_, rfl⟩
          subst hW
          go_loopw [14, 115] (fun v i wq => ∃ (j : Nat) (ds : List Dot) (t' : Int), j ≤ J ∧ i = .int .i64 j ∧ ds.length = j ∧ (∀ d ∈ ds, DotOk d) ∧ (0 ≤ t' ∧ t' ≤ t + 2 * (j : Int)) ∧ wq.ownsRow W.heap.size 75 3 v j (ds.flatMap dotc) ∧ v ≠ .slice none 0 0 ∧ Blk (w.heap.size + 1 + 1 + 1) 3 [.int .i64 t'] wq ∧ W.grownBy wq (some (w.heap.size + 1 + 1 + 1))) (fun _ i _ => J - (intOf i).toNat)
          case atStart => exact ⟨0, [], t, Nat.zero_le _, rfl, rfl, (fun d h => by cases h), by omega, World.ownsRow_made (base := W.heap.size) (e := 75) (size := 3) W #[] 0 (Nat.le_refl _) (Nat.zero_le _) (by simp), by simp, hat.keep (bel_made W _ _), World.grownBy_alloc W _ _⟩
          case round =>
            clear hy' hJ
            obtain ⟨j, ds, t', hj, rfl, hdl, hdo, ht', hod, hvn, hat', hgr⟩ := hrel
            obtain ⟨wq, hwq⟩ : ∃ wq, wq = wr := ⟨_, rfl⟩
            subst hwq
            by_cases hjJ : j < J
            · have v9 : IntKind.i64.wrap ((j : Int) + 9) = (j : Int) + 9 := IntWalk.i64_in _ (by omega)
              obtain ⟨on, hon⟩ : ∃ b, b = (bits BinOp.and IntKind.u32 (n / 2 ^ ((j : Int) + 9).toNat) 1 == 1) := ⟨_, rfl⟩
              have hon' := hon.symm
              have hatW : w.heap.size + 1 + 1 + 1 < W.heap.size := hat.lt
              clear hon
              go_wp2_with fail
              have hc : on = true ∨ (on = false ∧ (((j : Int) == 0) = false)) ∨ (on = false ∧ j = 0) := by
                cases on
                · by_cases hj0 : j = 0
                  · exact .inr (.inr ⟨rfl, hj0⟩)
                  · exact .inr (.inl ⟨rfl, by simp; omega⟩)
                · exact .inl rfl
              rcases hc with rfl | ⟨rfl, hj0⟩ | ⟨rfl, hj0⟩
              case inl =>
                refine Tail.start (S := fun _ => True) (tl := []) (by kernel_rfl) trivial (fun hHeld => ?_)
                obtain ⟨X, hX⟩ : ∃ X, X = wq.drew := ⟨_, rfl⟩
                rw [← hX]
                have hatX : Blk (w.heap.size + 1 + 1 + 1) 3 [.int .i64 t'] X := by rw [hX]; exact hat'
                have nbX : Blk w.heap.size 47 [.slice A m cap] X := by rw [hX]; exact blk_grown hnb (grown_drew hgr) (by simp; try omega)
                have grX : W.grownBy X (some (w.heap.size + 1 + 1 + 1)) := by rw [hX]; exact grown_drew hgr
                have hbX : Below w.heap.size w X := hbel.grown grX hbel.size (fun g hg => by cases hg; omega)
                have odX : X.ownsRow W.heap.size 75 3 u14 j (ds.flatMap dotc) := by rw [hX]; exact hod
                clear hX hat' hod hgr
                refine Tail.take (i := 0) (v := ?vq1) rfl (by kernel_rfl) (by kernel_rfl) (by kernel_rfl) (by kernel_rfl) (by kernel_rfl) (fun _ _ _ h => h) (Or.inl ⟨by rfl, ?hyq1⟩) trivial ?restq1
                case hyq1 => (intro w1 hS; go_simp <;> with_reducible rfl)
                try simp only [Act.put, List.setIfInBounds_toArray, List.set_cons_zero, List.set_cons_succ]
                refine Tail.take (i := 1) (v := ?vq2) rfl (by kernel_rfl) (by kernel_rfl) (by kernel_rfl) (by kernel_rfl) (by kernel_rfl) (fun _ _ _ h => h) (Or.inl ⟨by rfl, ?hyq2⟩) trivial ?restq2
                case hyq2 => (intro w1 hS; go_simp <;> with_reducible rfl)
                try simp only [Act.put, List.setIfInBounds_toArray, List.set_cons_zero, List.set_cons_succ]
                refine Tail.take (i := 4) (v := ?vq3) rfl (by kernel_rfl) (by kernel_rfl) (by kernel_rfl) (by kernel_rfl) (by kernel_rfl) (fun _ _ _ h => h) (Or.inl ⟨by rfl, ?hyq3⟩) trivial ?restq3
                case hyq3 => (intro w1 hS; go_simp <;> with_reducible rfl)
                try simp only [Act.put, List.setIfInBounds_toArray, List.set_cons_zero, List.set_cons_succ]
                refine Tail.take (i := 7) (v := ?vq4) rfl (by kernel_rfl) (by kernel_rfl) (by kernel_rfl) (by kernel_rfl) (by kernel_rfl) (fun _ _ _ h => h) (Or.inl ⟨by rfl, ?hyq4⟩) trivial ?restq4
                case hyq4 => (intro w1 hS; go_simp <;> with_reducible rfl)
                try simp only [Act.put, List.setIfInBounds_toArray, List.set_cons_zero, List.set_cons_succ]
                refine Tail.take (i := 8) (v := ?vq5) rfl (by kernel_rfl) (by kernel_rfl) (by kernel_rfl) (by kernel_rfl) (by kernel_rfl) (fun _ _ _ h => h) (Or.inl ⟨by rfl, ?hyq5⟩) trivial ?restq5
                case hyq5 => (intro w1 hS; go_simp <;> with_reducible rfl)
                try simp only [Act.put, List.setIfInBounds_toArray, List.set_cons_zero, List.set_cons_succ]
                refine Tail.take (i := 9) (v := ?vq6) rfl (by kernel_rfl) (by kernel_rfl) (by kernel_rfl) (by kernel_rfl) (by kernel_rfl) (fun _ _ _ h => h) (Or.inl ⟨by rfl, ?hyq6⟩) trivial ?restq6
                case hyq6 => (intro w1 hS; go_simp <;> with_reducible rfl)
                try simp only [Act.put, List.setIfInBounds_toArray, List.set_cons_zero, List.set_cons_succ]
                refine Tail.take (i := 10) (v := ?vq7) rfl (by kernel_rfl) (by kernel_rfl) (by kernel_rfl) (by kernel_rfl) (by kernel_rfl) (fun _ _ _ h => h) (Or.inl ⟨by rfl, ?hyq7⟩) trivial ?restq7
                case hyq7 => (intro w1 hS; go_simp <;> with_reducible rfl)
                try simp only [Act.put, List.setIfInBounds_toArray, List.set_cons_zero, List.set_cons_succ]
                refine Tail.take (i := 11) (v := ?vq8) rfl (by kernel_rfl) (by kernel_rfl) (by kernel_rfl) (by kernel_rfl) (by kernel_rfl) (fun _ _ _ h => h) (Or.inl ⟨by rfl, ?hyq8⟩) trivial ?restq8
                case hyq8 => (intro w1 hS; go_simp <;> with_reducible rfl)
                try simp only [Act.put, List.setIfInBounds_toArray, List.set_cons_zero, List.set_cons_succ]
                refine Tail.take (i := 12) (v := ?vq9) rfl (by kernel_rfl) (by kernel_rfl) (by kernel_rfl) (by kernel_rfl) (by kernel_rfl) (fun _ _ _ h => h) (Or.inl ⟨by rfl, ?hyq9⟩) trivial ?restq9
                case hyq9 => (intro w1 hS; go_simp <;> with_reducible rfl)
                try simp only [Act.put, List.setIfInBounds_toArray, List.set_cons_zero, List.set_cons_succ]
                refine Tail.ready (rs := [2]) (by kernel_rfl) (by simp) (Tail.AllReadyL.cons rfl (fun K hK => ?_) Tail.AllReadyL.nil)
                go_simp
                go_at_call 17
                refine (next_any (w.heap.size + 1 + 1 + 1) w.heap.size m cap A ms _ X w (by omega) hatX (nbX.cell (i := 0) rfl) (by omega) HS.out hbX (by omega)).mono ?_
                rintro e w1 ⟨va, rfl, hvva, hatw1, hgw1⟩
                have nbw1 := blk_grown nbX hgw1 (by simp; omega)
                have hbw1 := hbX.grown hgw1 hbX.size (fun g hg => by cases hg; omega)
                have odw1 := odX.kept hgw1 (.inr (own_ne odX (.inl hatW)))
                have grw1 := grown_then grX hgw1 (fun b hb => .inl hb)
                have hmx1 := mod4096 va hvva.2
                obtain ⟨x1, hex1⟩ : ∃ x1, x1 = va.tmod 4096 := ⟨_, rfl⟩
                rw [← hex1] at hmx1
                have hfx1 := hex1.symm
                have wfx1 : IntKind.i64.wrap x1 = x1 := IntWalk.i64_in _ (by omega)
                clear hex1
                try go_wp2_with fail
                refine hK.out _ _ trivial (fun hHeld => ?_)
                clear hK K
                try simp only [Act.put, List.setIfInBounds_toArray, List.set_cons_zero, List.set_cons_succ]
                refine Tail.take (i := 3) (v := ?vq10) rfl (by kernel_rfl) (by kernel_rfl) (by kernel_rfl) (by kernel_rfl) (by kernel_rfl) (fun _ _ _ h => h) (Or.inl ⟨by rfl, ?hyq10⟩) trivial ?restq10
                case hyq10 => (intro w1 hS; go_simp <;> with_reducible rfl)
                try simp only [Act.put, List.setIfInBounds_toArray, List.set_cons_zero, List.set_cons_succ]
                clear hfx1
                refine Tail.ready (rs := [5]) (by kernel_rfl) (by simp) (Tail.AllReadyL.cons rfl (fun K hK => ?_) Tail.AllReadyL.nil)
                go_simp
                go_at_call 17
                refine (next_any (w.heap.size + 1 + 1 + 1) w.heap.size m cap A ms _ w1 w (by omega) hatw1 (nbw1.cell (i := 0) rfl) (by omega) HS.out hbw1 (by omega)).mono ?_
                rintro e w2 ⟨vb, rfl, hvvb, hatw2, hgw2⟩
                have nbw2 := blk_grown nbw1 hgw2 (by simp; omega)
                have hbw2 := hbw1.grown hgw2 hbw1.size (fun g hg => by cases hg; omega)
                have odw2 := odw1.kept hgw2 (.inr (own_ne odw1 (.inl hatW)))
                have grw2 := grown_then grw1 hgw2 (fun b hb => .inl hb)
                have hmx2 := mod4096 vb hvvb.2
                obtain ⟨x2, hex2⟩ : ∃ x2, x2 = vb.tmod 4096 := ⟨_, rfl⟩
                rw [← hex2] at hmx2
                have hfx2 := hex2.symm
                have wfx2 : IntKind.i64.wrap x2 = x2 := IntWalk.i64_in _ (by omega)
                clear hex2
                try go_wp2_with fail
                refine hK.out _ _ trivial (fun hHeld => ?_)
                clear hK K
                try simp only [Act.put, List.setIfInBounds_toArray, List.set_cons_zero, List.set_cons_succ]
                refine Tail.take (i := 6) (v := ?vq11) rfl (by kernel_rfl) (by kernel_rfl) (by kernel_rfl) (by kernel_rfl) (by kernel_rfl) (fun _ _ _ h => h) (Or.inl ⟨by rfl, ?hyq11⟩) trivial ?restq11
                case hyq11 => (intro w1 hS; go_simp <;> with_reducible rfl)
                try simp only [Act.put, List.setIfInBounds_toArray, List.set_cons_zero, List.set_cons_succ]
                clear hfx2
                refine Tail.take (i := 13) (v := ?vq12) rfl (by kernel_rfl) (by kernel_rfl) (by kernel_rfl) (by kernel_rfl) (by kernel_rfl) (fun _ _ _ h => h) (Or.inl ⟨by rfl, ?hyq12⟩) trivial ?restq12
                case hyq12 => (intro w1 hS; go_simp <;> with_reducible rfl)
                try simp only [Act.put, List.setIfInBounds_toArray, List.set_cons_zero, List.set_cons_succ]
                refine Tail.ready (rs := [14]) (by kernel_rfl) (by simp) (Tail.AllReadyL.cons rfl (fun K hK => ?_) Tail.AllReadyL.nil)
                go_simp
                refine hK.out _ _ trivial (fun hHeld => ?_)
                clear hK K
                try simp only [Act.put, List.setIfInBounds_toArray, List.set_cons_zero, List.set_cons_succ]
                refine Tail.ready (rs := [15]) (by kernel_rfl) (by simp) (Tail.AllReadyL.cons rfl (fun K hK => ?_) Tail.AllReadyL.nil)
                go_simp
                refine hK.out _ _ trivial (fun hHeld => ?_)
                clear hK K
                try simp only [Act.put, List.setIfInBounds_toArray, List.set_cons_zero, List.set_cons_succ]
                refine Tail.ready (rs := [16]) (by kernel_rfl) (by simp) (Tail.AllReadyL.cons rfl (fun K hK => ?_) Tail.AllReadyL.nil)
                go_simp
                refine hK.out _ _ trivial (fun hHeld => ?_)
                clear hK K
                try simp only [Act.put, List.setIfInBounds_toArray, List.set_cons_zero, List.set_cons_succ]
                refine Tail.ready (rs := [17]) (by kernel_rfl) (by simp) (Tail.AllReadyL.cons rfl (fun K hK => ?_) Tail.AllReadyL.nil)
                go_simp
                refine hK.out _ _ trivial (fun hHeld => ?_)
                clear hK K
                try simp only [Act.put, List.setIfInBounds_toArray, List.set_cons_zero, List.set_cons_succ]
                refine Tail.ready (rs := [18]) (by kernel_rfl) (by simp) (Tail.AllReadyL.cons rfl (fun K hK => ?_) Tail.AllReadyL.nil)
                go_simp
                refine hK.out _ _ trivial (fun hHeld => ?_)
                clear hK K
                try simp only [Act.put, List.setIfInBounds_toArray, List.set_cons_zero, List.set_cons_succ]
                refine Tail.ready (rs := [19]) (by kernel_rfl) (by simp) (Tail.AllReadyL.cons rfl (fun K hK => ?_) Tail.AllReadyL.nil)
                go_simp
                refine hK.out _ _ trivial (fun hHeld => ?_)
                clear hK K
                try simp only [Act.put, List.setIfInBounds_toArray, List.set_cons_zero, List.set_cons_succ]
                refine Tail.ready (rs := [20]) (by kernel_rfl) (by simp) (Tail.AllReadyL.cons rfl (fun K hK => ?_) Tail.AllReadyL.nil)
                go_simp
                refine hK.out _ _ trivial (fun hHeld => ?_)
                clear hK K
                try simp only [Act.put, List.setIfInBounds_toArray, List.set_cons_zero, List.set_cons_succ]
                refine Tail.take (i := 21) (v := ?vq20) rfl (by kernel_rfl) (by kernel_rfl) (by kernel_rfl) (by kernel_rfl) (by kernel_rfl) (fun _ _ _ h => h) (Or.inl ⟨by rfl, ?hyq20⟩) trivial ?restq20
                case hyq20 => (intro w1 hS; go_simp <;> with_reducible rfl)
                try simp only [Act.put, List.setIfInBounds_toArray, List.set_cons_zero, List.set_cons_succ]
                refine Tail.take (i := 22) (v := ?vq21) rfl (by kernel_rfl) (by kernel_rfl) (by kernel_rfl) (by kernel_rfl) (by kernel_rfl) (fun _ _ _ h => h) (Or.inl ⟨by rfl, ?hyq21⟩) trivial ?restq21
                case hyq21 => (intro w1 hS; go_simp <;> with_reducible rfl)
                try simp only [Act.put, List.setIfInBounds_toArray, List.set_cons_zero, List.set_cons_succ]
                refine Tail.ready (rs := [23]) (by kernel_rfl) (by simp) (Tail.AllReadyL.cons rfl (fun K hK => ?_) Tail.AllReadyL.nil)
                go_simp
                refine hK.out _ _ trivial (fun hHeld => ?_)
                clear hK K
                obtain ⟨Y, hY⟩ : ∃ Y, Y = w2.alloc (.cells #[.int .i64 x1, .int .i64 x2, .bool true] 75) := ⟨_, rfl⟩
                have hbk : Blk w2.heap.size 75 [.int .i64 x1, .int .i64 x2, .bool true] Y := by rw [hY]; exact Blk.new_ w2 _ _
                have hdY : Below w2.heap.size w2 Y := by rw [hY]; exact bel_made w2 _ _
                rw [← hY]
                try simp only [Act.put, List.setIfInBounds_toArray, List.set_cons_zero, List.set_cons_succ]
                have odY := own_keep odw2 hdY
                have atY := hatw2.keep hdY
                have grY := grown_below grw2 hdY
                clear hY
                refine Tail.ready (rs := [24]) (by kernel_rfl) (by simp) (Tail.AllReadyL.cons rfl (fun K hK => ?_) Tail.AllReadyL.nil)
                refine step_app2 rfl (.tmp 118) (.tmp 141) 73 rfl W.heap.size 75 i1 (.agg #[.int .i64 0, .int .i64 0, .bool false]) 3 24 Tryd.underlying73 hi1 iz1 iy1 ib1 rfl (by decide) u14 j (ds.flatMap dotc) rfl odY ⟨w2.heap.size, 0, none⟩ 1 1 (dotc (x1, x2, true)) rfl rfl (row_cells hbk) (dot_ok _) (by unfold maxLen; omega) (by omega) (Nat.le_trans (Nat.le_refl _) grY.size) ?_
                intro v6 w6 own6 grow6 nil6 _
                have hn6 : v6 ≠ .slice none 0 0 := fun h => hvn (nil6.1 h).1
                have at6 := blk_grown atY grow6 (own_ne odY (.inl hatW))
                have gr6 := grown_then grY grow6 (fun b hb => .inr (own_isT odY hb).2)
                refine hK.out _ _ trivial (fun hHeld => ?_)
                clear hK K
                try simp only [Act.put, List.setIfInBounds_toArray, List.set_cons_zero, List.set_cons_succ]
                refine Tail.take (i := 25) (v := ?vq22) rfl (by kernel_rfl) (by kernel_rfl) (by kernel_rfl) (by kernel_rfl) (by kernel_rfl) (fun _ _ _ h => h) (Or.inl ⟨by rfl, ?hyq22⟩) trivial ?restq22
                case hyq22 => (intro w1 hS; go_simp <;> with_reducible rfl)
                try simp only [Act.put, List.setIfInBounds_toArray, List.set_cons_zero, List.set_cons_succ]
                have HE := Lib.hid (And.intro own6 (And.intro hn6 (And.intro at6 gr6)))
                clear own6 grow6 nil6 hn6 at6 gr6 odY atY grY odX odw1 odw2 hatX hatw1 hatw2 grX grw1 grw2 hgw1 hgw2 hbX hbw1 hbw2 nbX nbw1 nbw2
                refine Tail.done (by kernel_rfl) ?_ _
                go_wp2
                go_roundw
                case rel =>
                  refine ⟨j + 1, ds ++ [(x1, x2, true)], t' + 1 + 1, by omega, by go_num, by rw [List.length_append, hdl]; rfl, fun d hd => ?_, by omega, by rw [List.flatMap_append]; exact HE.out.1, HE.out.2.1, HE.out.2.2.1, HE.out.2.2.2⟩
                  rcases List.mem_append.1 hd with h | h
                  · exact hdo d h
                  · simp at h; subst h; exact ⟨hmx1, hmx2⟩
                case measure => simp [intOf]; omega
              case inr.inl =>
                refine Tail.start (S := fun _ => True) (tl := []) (by kernel_rfl) trivial (fun hHeld => ?_)
                obtain ⟨X, hX⟩ : ∃ X, X = wq.drew := ⟨_, rfl⟩
                rw [← hX]
                have hatX : Blk (w.heap.size + 1 + 1 + 1) 3 [.int .i64 t'] X := by rw [hX]; exact hat'
                have nbX : Blk w.heap.size 47 [.slice A m cap] X := by rw [hX]; exact blk_grown hnb (grown_drew hgr) (by simp; try omega)
                have grX : W.grownBy X (some (w.heap.size + 1 + 1 + 1)) := by rw [hX]; exact grown_drew hgr
                have hbX : Below w.heap.size w X := hbel.grown grX hbel.size (fun g hg => by cases hg; omega)
                have odX : X.ownsRow W.heap.size 75 3 u14 j (ds.flatMap dotc) := by rw [hX]; exact hod
                clear hX hat' hod hgr
                refine Tail.take (i := 0) (v := ?vq23) rfl (by kernel_rfl) (by kernel_rfl) (by kernel_rfl) (by kernel_rfl) (by kernel_rfl) (fun _ _ _ h => h) (Or.inl ⟨by rfl, ?hyq23⟩) trivial ?restq23
                case hyq23 => (intro w1 hS; go_simp <;> with_reducible rfl)
                try simp only [Act.put, List.setIfInBounds_toArray, List.set_cons_zero, List.set_cons_succ]
                refine Tail.take (i := 1) (v := ?vq24) rfl (by kernel_rfl) (by kernel_rfl) (by kernel_rfl) (by kernel_rfl) (by kernel_rfl) (fun _ _ _ h => h) (Or.inl ⟨by rfl, ?hyq24⟩) trivial ?restq24
                case hyq24 => (intro w1 hS; go_simp <;> with_reducible rfl)
                try simp only [Act.put, List.setIfInBounds_toArray, List.set_cons_zero, List.set_cons_succ]
                refine Tail.take (i := 4) (v := ?vq25) rfl (by kernel_rfl) (by kernel_rfl) (by kernel_rfl) (by kernel_rfl) (by kernel_rfl) (fun _ _ _ h => h) (Or.inl ⟨by rfl, ?hyq25⟩) trivial ?restq25
                case hyq25 => (intro w1 hS; go_simp <;> with_reducible rfl)
                try simp only [Act.put, List.setIfInBounds_toArray, List.set_cons_zero, List.set_cons_succ]
                refine Tail.take (i := 7) (v := ?vq26) rfl (by kernel_rfl) (by kernel_rfl) (by kernel_rfl) (by kernel_rfl) (by kernel_rfl) (fun _ _ _ h => h) (Or.inl ⟨by rfl, ?hyq26⟩) trivial ?restq26
                case hyq26 => (intro w1 hS; go_simp <;> with_reducible rfl)
                try simp only [Act.put, List.setIfInBounds_toArray, List.set_cons_zero, List.set_cons_succ]
                refine Tail.take (i := 8) (v := ?vq27) rfl (by kernel_rfl) (by kernel_rfl) (by kernel_rfl) (by kernel_rfl) (by kernel_rfl) (fun _ _ _ h => h) (Or.inl ⟨by rfl, ?hyq27⟩) trivial ?restq27
                case hyq27 => (intro w1 hS; go_simp <;> with_reducible rfl)
                try simp only [Act.put, List.setIfInBounds_toArray, List.set_cons_zero, List.set_cons_succ]
                refine Tail.take (i := 9) (v := ?vq28) rfl (by kernel_rfl) (by kernel_rfl) (by kernel_rfl) (by kernel_rfl) (by kernel_rfl) (fun _ _ _ h => h) (Or.inl ⟨by rfl, ?hyq28⟩) trivial ?restq28
                case hyq28 => (intro w1 hS; go_simp <;> with_reducible rfl)
                try simp only [Act.put, List.setIfInBounds_toArray, List.set_cons_zero, List.set_cons_succ]
                refine Tail.take (i := 10) (v := ?vq29) rfl (by kernel_rfl) (by kernel_rfl) (by kernel_rfl) (by kernel_rfl) (by kernel_rfl) (fun _ _ _ h => h) (Or.inl ⟨by rfl, ?hyq29⟩) trivial ?restq29
                case hyq29 => (intro w1 hS; go_simp <;> with_reducible rfl)
                try simp only [Act.put, List.setIfInBounds_toArray, List.set_cons_zero, List.set_cons_succ]
                refine Tail.take (i := 11) (v := ?vq30) rfl (by kernel_rfl) (by kernel_rfl) (by kernel_rfl) (by kernel_rfl) (by kernel_rfl) (fun _ _ _ h => h) (Or.inl ⟨by rfl, ?hyq30⟩) trivial ?restq30
                case hyq30 => (intro w1 hS; go_simp <;> with_reducible rfl)
                try simp only [Act.put, List.setIfInBounds_toArray, List.set_cons_zero, List.set_cons_succ]
                refine Tail.take (i := 12) (v := ?vq31) rfl (by kernel_rfl) (by kernel_rfl) (by kernel_rfl) (by kernel_rfl) (by kernel_rfl) (fun _ _ _ h => h) (Or.inl ⟨by rfl, ?hyq31⟩) trivial ?restq31
                case hyq31 => (intro w1 hS; go_simp <;> with_reducible rfl)
                try simp only [Act.put, List.setIfInBounds_toArray, List.set_cons_zero, List.set_cons_succ]
                refine Tail.ready (rs := [2]) (by kernel_rfl) (by simp) (Tail.AllReadyL.cons rfl (fun K hK => ?_) Tail.AllReadyL.nil)
                go_simp
                go_at_call 17
                refine (next_any (w.heap.size + 1 + 1 + 1) w.heap.size m cap A ms _ X w (by omega) hatX (nbX.cell (i := 0) rfl) (by omega) HS.out hbX (by omega)).mono ?_
                rintro e w1 ⟨va, rfl, hvva, hatw1, hgw1⟩
                have nbw1 := blk_grown nbX hgw1 (by simp; omega)
                have hbw1 := hbX.grown hgw1 hbX.size (fun g hg => by cases hg; omega)
                have odw1 := odX.kept hgw1 (.inr (own_ne odX (.inl hatW)))
                have grw1 := grown_then grX hgw1 (fun b hb => .inl hb)
                have hmx1 := mod4096 va hvva.2
                obtain ⟨x1, hex1⟩ : ∃ x1, x1 = va.tmod 4096 := ⟨_, rfl⟩
                rw [← hex1] at hmx1
                have hfx1 := hex1.symm
                have wfx1 : IntKind.i64.wrap x1 = x1 := IntWalk.i64_in _ (by omega)
                clear hex1
                try go_wp2_with fail
                refine hK.out _ _ trivial (fun hHeld => ?_)
                clear hK K
                try simp only [Act.put, List.setIfInBounds_toArray, List.set_cons_zero, List.set_cons_succ]
                refine Tail.take (i := 3) (v := ?vq32) rfl (by kernel_rfl) (by kernel_rfl) (by kernel_rfl) (by kernel_rfl) (by kernel_rfl) (fun _ _ _ h => h) (Or.inl ⟨by rfl, ?hyq32⟩) trivial ?restq32
                case hyq32 => (intro w1 hS; go_simp <;> with_reducible rfl)
                try simp only [Act.put, List.setIfInBounds_toArray, List.set_cons_zero, List.set_cons_succ]
                clear hfx1
                refine Tail.ready (rs := [5]) (by kernel_rfl) (by simp) (Tail.AllReadyL.cons rfl (fun K hK => ?_) Tail.AllReadyL.nil)
                go_simp
                go_at_call 17
                refine (next_any (w.heap.size + 1 + 1 + 1) w.heap.size m cap A ms _ w1 w (by omega) hatw1 (nbw1.cell (i := 0) rfl) (by omega) HS.out hbw1 (by omega)).mono ?_
                rintro e w2 ⟨vb, rfl, hvvb, hatw2, hgw2⟩
                have nbw2 := blk_grown nbw1 hgw2 (by simp; omega)
                have hbw2 := hbw1.grown hgw2 hbw1.size (fun g hg => by cases hg; omega)
                have odw2 := odw1.kept hgw2 (.inr (own_ne odw1 (.inl hatW)))
                have grw2 := grown_then grw1 hgw2 (fun b hb => .inl hb)
                have hmx2 := mod4096 vb hvvb.2
                obtain ⟨x2, hex2⟩ : ∃ x2, x2 = vb.tmod 4096 := ⟨_, rfl⟩
                rw [← hex2] at hmx2
                have hfx2 := hex2.symm
                have wfx2 : IntKind.i64.wrap x2 = x2 := IntWalk.i64_in _ (by omega)
                clear hex2
                try go_wp2_with fail
                refine hK.out _ _ trivial (fun hHeld => ?_)
                clear hK K
                try simp only [Act.put, List.setIfInBounds_toArray, List.set_cons_zero, List.set_cons_succ]
                refine Tail.take (i := 6) (v := ?vq33) rfl (by kernel_rfl) (by kernel_rfl) (by kernel_rfl) (by kernel_rfl) (by kernel_rfl) (fun _ _ _ h => h) (Or.inl ⟨by rfl, ?hyq33⟩) trivial ?restq33
                case hyq33 => (intro w1 hS; go_simp <;> with_reducible rfl)
                try simp only [Act.put, List.setIfInBounds_toArray, List.set_cons_zero, List.set_cons_succ]
                clear hfx2
                refine Tail.take (i := 13) (v := ?vq34) rfl (by kernel_rfl) (by kernel_rfl) (by kernel_rfl) (by kernel_rfl) (by kernel_rfl) (fun _ _ _ h => h) (Or.inl ⟨by rfl, ?hyq34⟩) trivial ?restq34
                case hyq34 => (intro w1 hS; go_simp <;> with_reducible rfl)
                try simp only [Act.put, List.setIfInBounds_toArray, List.set_cons_zero, List.set_cons_succ]
                refine Tail.take (i := 14) (v := ?vq35) rfl (by kernel_rfl) (by kernel_rfl) (by kernel_rfl) (by kernel_rfl) (by kernel_rfl) (fun _ _ _ h => h) (Or.inl ⟨by rfl, ?hyq35⟩) trivial ?restq35
                case hyq35 => (intro w1 hS; go_simp <;> with_reducible rfl)
                try simp only [Act.put, List.setIfInBounds_toArray, List.set_cons_zero, List.set_cons_succ]
                refine Tail.take (i := 15) (v := ?vq36) rfl (by kernel_rfl) (by kernel_rfl) (by kernel_rfl) (by kernel_rfl) (by kernel_rfl) (fun _ _ _ h => h) (Or.inl ⟨by rfl, ?hyq36⟩) trivial ?restq36
                case hyq36 => (intro w1 hS; go_simp <;> with_reducible rfl)
                try simp only [Act.put, List.setIfInBounds_toArray, List.set_cons_zero, List.set_cons_succ]
                refine Tail.take (i := 16) (v := ?vq37) rfl (by kernel_rfl) (by kernel_rfl) (by kernel_rfl) (by kernel_rfl) (by kernel_rfl) (fun _ _ _ h => h) (Or.inl ⟨by rfl, ?hyq37⟩) trivial ?restq37
                case hyq37 => (intro w1 hS; go_simp <;> with_reducible rfl)
                try simp only [Act.put, List.setIfInBounds_toArray, List.set_cons_zero, List.set_cons_succ]
                refine Tail.ready (rs := [17]) (by kernel_rfl) (by simp) (Tail.AllReadyL.cons rfl (fun K hK => ?_) Tail.AllReadyL.nil)
                go_simp
                refine hK.out _ _ trivial (fun hHeld => ?_)
                clear hK K
                try simp only [Act.put, List.setIfInBounds_toArray, List.set_cons_zero, List.set_cons_succ]
                refine Tail.ready (rs := [18]) (by kernel_rfl) (by simp) (Tail.AllReadyL.cons rfl (fun K hK => ?_) Tail.AllReadyL.nil)
                go_simp
                refine hK.out _ _ trivial (fun hHeld => ?_)
                clear hK K
                try simp only [Act.put, List.setIfInBounds_toArray, List.set_cons_zero, List.set_cons_succ]
                refine Tail.ready (rs := [19]) (by kernel_rfl) (by simp) (Tail.AllReadyL.cons rfl (fun K hK => ?_) Tail.AllReadyL.nil)
                go_simp
                refine hK.out _ _ trivial (fun hHeld => ?_)
                clear hK K
                try simp only [Act.put, List.setIfInBounds_toArray, List.set_cons_zero, List.set_cons_succ]
                refine Tail.take (i := 20) (v := ?vq41) rfl (by kernel_rfl) (by kernel_rfl) (by kernel_rfl) (by kernel_rfl) (by kernel_rfl) (fun _ _ _ h => h) (Or.inl ⟨by rfl, ?hyq41⟩) trivial ?restq41
                case hyq41 => (intro w1 hS; go_simp <;> with_reducible rfl)
                try simp only [Act.put, List.setIfInBounds_toArray, List.set_cons_zero, List.set_cons_succ]
                refine Tail.take (i := 21) (v := ?vq42) rfl (by kernel_rfl) (by kernel_rfl) (by kernel_rfl) (by kernel_rfl) (by kernel_rfl) (fun _ _ _ h => h) (Or.inl ⟨by rfl, ?hyq42⟩) trivial ?restq42
                case hyq42 => (intro w1 hS; go_simp <;> with_reducible rfl)
                try simp only [Act.put, List.setIfInBounds_toArray, List.set_cons_zero, List.set_cons_succ]
                refine Tail.take (i := 22) (v := ?vq43) rfl (by kernel_rfl) (by kernel_rfl) (by kernel_rfl) (by kernel_rfl) (by kernel_rfl) (fun _ _ _ h => h) (Or.inl ⟨by rfl, ?hyq43⟩) trivial ?restq43
                case hyq43 => (intro w1 hS; go_simp <;> with_reducible rfl)
                try simp only [Act.put, List.setIfInBounds_toArray, List.set_cons_zero, List.set_cons_succ]
                refine Tail.ready (rs := [23]) (by kernel_rfl) (by simp) (Tail.AllReadyL.cons rfl (fun K hK => ?_) Tail.AllReadyL.nil)
                go_simp
                refine hK.out _ _ trivial (fun hHeld => ?_)
                clear hK K
                obtain ⟨Y, hY⟩ : ∃ Y, Y = w2.alloc (.cells #[.int .i64 x1, .int .i64 x2, .bool false] 75) := ⟨_, rfl⟩
                have hbk : Blk w2.heap.size 75 [.int .i64 x1, .int .i64 x2, .bool false] Y := by rw [hY]; exact Blk.new_ w2 _ _
                have hdY : Below w2.heap.size w2 Y := by rw [hY]; exact bel_made w2 _ _
                rw [← hY]
                try simp only [Act.put, List.setIfInBounds_toArray, List.set_cons_zero, List.set_cons_succ]
                have odY := own_keep odw2 hdY
                have atY := hatw2.keep hdY
                have grY := grown_below grw2 hdY
                clear hY
                refine Tail.ready (rs := [24]) (by kernel_rfl) (by simp) (Tail.AllReadyL.cons rfl (fun K hK => ?_) Tail.AllReadyL.nil)
                refine step_app2 rfl (.tmp 118) (.tmp 141) 73 rfl W.heap.size 75 i1 (.agg #[.int .i64 0, .int .i64 0, .bool false]) 3 24 Tryd.underlying73 hi1 iz1 iy1 ib1 rfl (by decide) u14 j (ds.flatMap dotc) rfl odY ⟨w2.heap.size, 0, none⟩ 1 1 (dotc (x1, x2, false)) rfl rfl (row_cells hbk) (dot_ok _) (by unfold maxLen; omega) (by omega) (Nat.le_trans (Nat.le_refl _) grY.size) ?_
                intro v6 w6 own6 grow6 nil6 _
                have hn6 : v6 ≠ .slice none 0 0 := fun h => hvn (nil6.1 h).1
                have at6 := blk_grown atY grow6 (own_ne odY (.inl hatW))
                have gr6 := grown_then grY grow6 (fun b hb => .inr (own_isT odY hb).2)
                refine hK.out _ _ trivial (fun hHeld => ?_)
                clear hK K
                try simp only [Act.put, List.setIfInBounds_toArray, List.set_cons_zero, List.set_cons_succ]
                refine Tail.take (i := 25) (v := ?vq44) rfl (by kernel_rfl) (by kernel_rfl) (by kernel_rfl) (by kernel_rfl) (by kernel_rfl) (fun _ _ _ h => h) (Or.inl ⟨by rfl, ?hyq44⟩) trivial ?restq44
                case hyq44 => (intro w1 hS; go_simp <;> with_reducible rfl)
                try simp only [Act.put, List.setIfInBounds_toArray, List.set_cons_zero, List.set_cons_succ]
                have HE := Lib.hid (And.intro own6 (And.intro hn6 (And.intro at6 gr6)))
                clear own6 grow6 nil6 hn6 at6 gr6 odY atY grY odX odw1 odw2 hatX hatw1 hatw2 grX grw1 grw2 hgw1 hgw2 hbX hbw1 hbw2 nbX nbw1 nbw2
                refine Tail.done (by kernel_rfl) ?_ _
                go_wp2
                go_roundw
                case rel =>
                  refine ⟨j + 1, ds ++ [(x1, x2, false)], t' + 1 + 1, by omega, by go_num, by rw [List.length_append, hdl]; rfl, fun d hd => ?_, by omega, by rw [List.flatMap_append]; exact HE.out.1, HE.out.2.1, HE.out.2.2.1, HE.out.2.2.2⟩
                  rcases List.mem_append.1 hd with h | h
                  · exact hdo d h
                  · simp at h; subst h; exact ⟨hmx1, hmx2⟩
                case measure => simp [intOf]; omega
              case inr.inr =>
                have hj1 : ((j : Int) == 0) = true := by rw [hj0]; rfl
                clear hj0
                obtain ⟨on2, hon2⟩ : ∃ b, b = (n / 1073741824 == 0) := ⟨_, rfl⟩
                have hon3 := hon2.symm
                clear hon2
                refine Tail.start (S := fun _ => True) (tl := []) (by kernel_rfl) trivial (fun hHeld => ?_)
                obtain ⟨X, hX⟩ : ∃ X, X = wq.drew := ⟨_, rfl⟩
                rw [← hX]
                have hatX : Blk (w.heap.size + 1 + 1 + 1) 3 [.int .i64 t'] X := by rw [hX]; exact hat'
                have nbX : Blk w.heap.size 47 [.slice A m cap] X := by rw [hX]; exact blk_grown hnb (grown_drew hgr) (by simp; try omega)
                have grX : W.grownBy X (some (w.heap.size + 1 + 1 + 1)) := by rw [hX]; exact grown_drew hgr
                have hbX : Below w.heap.size w X := hbel.grown grX hbel.size (fun g hg => by cases hg; omega)
                have odX : X.ownsRow W.heap.size 75 3 u14 j (ds.flatMap dotc) := by rw [hX]; exact hod
                clear hX hat' hod hgr
                refine Tail.take (i := 0) (v := ?vq45) rfl (by kernel_rfl) (by kernel_rfl) (by kernel_rfl) (by kernel_rfl) (by kernel_rfl) (fun _ _ _ h => h) (Or.inl ⟨by rfl, ?hyq45⟩) trivial ?restq45
                case hyq45 => (intro w1 hS; go_simp <;> with_reducible rfl)
                try simp only [Act.put, List.setIfInBounds_toArray, List.set_cons_zero, List.set_cons_succ]
                refine Tail.take (i := 1) (v := ?vq46) rfl (by kernel_rfl) (by kernel_rfl) (by kernel_rfl) (by kernel_rfl) (by kernel_rfl) (fun _ _ _ h => h) (Or.inl ⟨by rfl, ?hyq46⟩) trivial ?restq46
                case hyq46 => (intro w1 hS; go_simp <;> with_reducible rfl)
                try simp only [Act.put, List.setIfInBounds_toArray, List.set_cons_zero, List.set_cons_succ]
                refine Tail.take (i := 4) (v := ?vq47) rfl (by kernel_rfl) (by kernel_rfl) (by kernel_rfl) (by kernel_rfl) (by kernel_rfl) (fun _ _ _ h => h) (Or.inl ⟨by rfl, ?hyq47⟩) trivial ?restq47
                case hyq47 => (intro w1 hS; go_simp <;> with_reducible rfl)
                try simp only [Act.put, List.setIfInBounds_toArray, List.set_cons_zero, List.set_cons_succ]
                refine Tail.take (i := 7) (v := ?vq48) rfl (by kernel_rfl) (by kernel_rfl) (by kernel_rfl) (by kernel_rfl) (by kernel_rfl) (fun _ _ _ h => h) (Or.inl ⟨by rfl, ?hyq48⟩) trivial ?restq48
                case hyq48 => (intro w1 hS; go_simp <;> with_reducible rfl)
                try simp only [Act.put, List.setIfInBounds_toArray, List.set_cons_zero, List.set_cons_succ]
                refine Tail.take (i := 8) (v := ?vq49) rfl (by kernel_rfl) (by kernel_rfl) (by kernel_rfl) (by kernel_rfl) (by kernel_rfl) (fun _ _ _ h => h) (Or.inl ⟨by rfl, ?hyq49⟩) trivial ?restq49
                case hyq49 => (intro w1 hS; go_simp <;> with_reducible rfl)
                try simp only [Act.put, List.setIfInBounds_toArray, List.set_cons_zero, List.set_cons_succ]
                refine Tail.take (i := 9) (v := ?vq50) rfl (by kernel_rfl) (by kernel_rfl) (by kernel_rfl) (by kernel_rfl) (by kernel_rfl) (fun _ _ _ h => h) (Or.inl ⟨by rfl, ?hyq50⟩) trivial ?restq50
                case hyq50 => (intro w1 hS; go_simp <;> with_reducible rfl)
                try simp only [Act.put, List.setIfInBounds_toArray, List.set_cons_zero, List.set_cons_succ]
                refine Tail.take (i := 10) (v := ?vq51) rfl (by kernel_rfl) (by kernel_rfl) (by kernel_rfl) (by kernel_rfl) (by kernel_rfl) (fun _ _ _ h => h) (Or.inl ⟨by rfl, ?hyq51⟩) trivial ?restq51
                case hyq51 => (intro w1 hS; go_simp <;> with_reducible rfl)
                try simp only [Act.put, List.setIfInBounds_toArray, List.set_cons_zero, List.set_cons_succ]
                refine Tail.take (i := 11) (v := ?vq52) rfl (by kernel_rfl) (by kernel_rfl) (by kernel_rfl) (by kernel_rfl) (by kernel_rfl) (fun _ _ _ h => h) (Or.inl ⟨by rfl, ?hyq52⟩) trivial ?restq52
                case hyq52 => (intro w1 hS; go_simp <;> with_reducible rfl)
                try simp only [Act.put, List.setIfInBounds_toArray, List.set_cons_zero, List.set_cons_succ]
                refine Tail.take (i := 12) (v := ?vq53) rfl (by kernel_rfl) (by kernel_rfl) (by kernel_rfl) (by kernel_rfl) (by kernel_rfl) (fun _ _ _ h => h) (Or.inl ⟨by rfl, ?hyq53⟩) trivial ?restq53
                case hyq53 => (intro w1 hS; go_simp <;> with_reducible rfl)
                try simp only [Act.put, List.setIfInBounds_toArray, List.set_cons_zero, List.set_cons_succ]
                refine Tail.ready (rs := [2]) (by kernel_rfl) (by simp) (Tail.AllReadyL.cons rfl (fun K hK => ?_) Tail.AllReadyL.nil)
                go_simp
                go_at_call 17
                refine (next_any (w.heap.size + 1 + 1 + 1) w.heap.size m cap A ms _ X w (by omega) hatX (nbX.cell (i := 0) rfl) (by omega) HS.out hbX (by omega)).mono ?_
                rintro e w1 ⟨va, rfl, hvva, hatw1, hgw1⟩
                have nbw1 := blk_grown nbX hgw1 (by simp; omega)
                have hbw1 := hbX.grown hgw1 hbX.size (fun g hg => by cases hg; omega)
                have odw1 := odX.kept hgw1 (.inr (own_ne odX (.inl hatW)))
                have grw1 := grown_then grX hgw1 (fun b hb => .inl hb)
                have hmx1 := mod4096 va hvva.2
                obtain ⟨x1, hex1⟩ : ∃ x1, x1 = va.tmod 4096 := ⟨_, rfl⟩
                rw [← hex1] at hmx1
                have hfx1 := hex1.symm
                have wfx1 : IntKind.i64.wrap x1 = x1 := IntWalk.i64_in _ (by omega)
                clear hex1
                try go_wp2_with fail
                refine hK.out _ _ trivial (fun hHeld => ?_)
                clear hK K
                try simp only [Act.put, List.setIfInBounds_toArray, List.set_cons_zero, List.set_cons_succ]
                refine Tail.take (i := 3) (v := ?vq54) rfl (by kernel_rfl) (by kernel_rfl) (by kernel_rfl) (by kernel_rfl) (by kernel_rfl) (fun _ _ _ h => h) (Or.inl ⟨by rfl, ?hyq54⟩) trivial ?restq54
                case hyq54 => (intro w1 hS; go_simp <;> with_reducible rfl)
                try simp only [Act.put, List.setIfInBounds_toArray, List.set_cons_zero, List.set_cons_succ]
                clear hfx1
                refine Tail.ready (rs := [5]) (by kernel_rfl) (by simp) (Tail.AllReadyL.cons rfl (fun K hK => ?_) Tail.AllReadyL.nil)
                go_simp
                go_at_call 17
                refine (next_any (w.heap.size + 1 + 1 + 1) w.heap.size m cap A ms _ w1 w (by omega) hatw1 (nbw1.cell (i := 0) rfl) (by omega) HS.out hbw1 (by omega)).mono ?_
                rintro e w2 ⟨vb, rfl, hvvb, hatw2, hgw2⟩
                have nbw2 := blk_grown nbw1 hgw2 (by simp; omega)
                have hbw2 := hbw1.grown hgw2 hbw1.size (fun g hg => by cases hg; omega)
                have odw2 := odw1.kept hgw2 (.inr (own_ne odw1 (.inl hatW)))
                have grw2 := grown_then grw1 hgw2 (fun b hb => .inl hb)
                have hmx2 := mod4096 vb hvvb.2
                obtain ⟨x2, hex2⟩ : ∃ x2, x2 = vb.tmod 4096 := ⟨_, rfl⟩
                rw [← hex2] at hmx2
                have hfx2 := hex2.symm
                have wfx2 : IntKind.i64.wrap x2 = x2 := IntWalk.i64_in _ (by omega)
                clear hex2
                try go_wp2_with fail
                refine hK.out _ _ trivial (fun hHeld => ?_)
                clear hK K
                try simp only [Act.put, List.setIfInBounds_toArray, List.set_cons_zero, List.set_cons_succ]
                refine Tail.take (i := 6) (v := ?vq55) rfl (by kernel_rfl) (by kernel_rfl) (by kernel_rfl) (by kernel_rfl) (by kernel_rfl) (fun _ _ _ h => h) (Or.inl ⟨by rfl, ?hyq55⟩) trivial ?restq55
                case hyq55 => (intro w1 hS; go_simp <;> with_reducible rfl)
                try simp only [Act.put, List.setIfInBounds_toArray, List.set_cons_zero, List.set_cons_succ]
                clear hfx2
                refine Tail.take (i := 13) (v := ?vq56) rfl (by kernel_rfl) (by kernel_rfl) (by kernel_rfl) (by kernel_rfl) (by kernel_rfl) (fun _ _ _ h => h) (Or.inl ⟨by rfl, ?hyq56⟩) trivial ?restq56
                case hyq56 => (intro w1 hS; go_simp <;> with_reducible rfl)
                try simp only [Act.put, List.setIfInBounds_toArray, List.set_cons_zero, List.set_cons_succ]
                refine Tail.take (i := 14) (v := ?vq57) rfl (by kernel_rfl) (by kernel_rfl) (by kernel_rfl) (by kernel_rfl) (by kernel_rfl) (fun _ _ _ h => h) (Or.inl ⟨by rfl, ?hyq57⟩) trivial ?restq57
                case hyq57 => (intro w1 hS; go_simp <;> with_reducible rfl)
                try simp only [Act.put, List.setIfInBounds_toArray, List.set_cons_zero, List.set_cons_succ]
                refine Tail.take (i := 15) (v := ?vq58) rfl (by kernel_rfl) (by kernel_rfl) (by kernel_rfl) (by kernel_rfl) (by kernel_rfl) (fun _ _ _ h => h) (Or.inl ⟨by rfl, ?hyq58⟩) trivial ?restq58
                case hyq58 => (intro w1 hS; go_simp <;> with_reducible rfl)
                try simp only [Act.put, List.setIfInBounds_toArray, List.set_cons_zero, List.set_cons_succ]
                refine Tail.take (i := 16) (v := ?vq59) rfl (by kernel_rfl) (by kernel_rfl) (by kernel_rfl) (by kernel_rfl) (by kernel_rfl) (fun _ _ _ h => h) (Or.inl ⟨by rfl, ?hyq59⟩) trivial ?restq59
                case hyq59 => (intro w1 hS; go_simp <;> with_reducible rfl)
                try simp only [Act.put, List.setIfInBounds_toArray, List.set_cons_zero, List.set_cons_succ]
                refine Tail.take (i := 17) (v := ?vq60) rfl (by kernel_rfl) (by kernel_rfl) (by kernel_rfl) (by kernel_rfl) (by kernel_rfl) (fun _ _ _ h => h) (Or.inl ⟨by rfl, ?hyq60⟩) trivial ?restq60
                case hyq60 => (intro w1 hS; go_simp <;> with_reducible rfl)
                try simp only [Act.put, List.setIfInBounds_toArray, List.set_cons_zero, List.set_cons_succ]
                refine Tail.take (i := 18) (v := ?vq61) rfl (by kernel_rfl) (by kernel_rfl) (by kernel_rfl) (by kernel_rfl) (by kernel_rfl) (fun _ _ _ h => h) (Or.inl ⟨by rfl, ?hyq61⟩) trivial ?restq61
                case hyq61 => (intro w1 hS; go_simp <;> with_reducible rfl)
                try simp only [Act.put, List.setIfInBounds_toArray, List.set_cons_zero, List.set_cons_succ]
                refine Tail.take (i := 19) (v := ?vq62) rfl (by kernel_rfl) (by kernel_rfl) (by kernel_rfl) (by kernel_rfl) (by kernel_rfl) (fun _ _ _ h => h) (Or.inl ⟨by rfl, ?hyq62⟩) trivial ?restq62
                case hyq62 => (intro w1 hS; go_simp <;> with_reducible rfl)
                try simp only [Act.put, List.setIfInBounds_toArray, List.set_cons_zero, List.set_cons_succ]
                refine Tail.take (i := 20) (v := ?vq63) rfl (by kernel_rfl) (by kernel_rfl) (by kernel_rfl) (by kernel_rfl) (by kernel_rfl) (fun _ _ _ h => h) (Or.inl ⟨by rfl, ?hyq63⟩) trivial ?restq63
                case hyq63 => (intro w1 hS; go_simp <;> with_reducible rfl)
                try simp only [Act.put, List.setIfInBounds_toArray, List.set_cons_zero, List.set_cons_succ]
                refine Tail.take (i := 21) (v := ?vq64) rfl (by kernel_rfl) (by kernel_rfl) (by kernel_rfl) (by kernel_rfl) (by kernel_rfl) (fun _ _ _ h => h) (Or.inl ⟨by rfl, ?hyq64⟩) trivial ?restq64
                case hyq64 => (intro w1 hS; go_simp <;> with_reducible rfl)
                try simp only [Act.put, List.setIfInBounds_toArray, List.set_cons_zero, List.set_cons_succ]
                refine Tail.take (i := 22) (v := ?vq65) rfl (by kernel_rfl) (by kernel_rfl) (by kernel_rfl) (by kernel_rfl) (by kernel_rfl) (fun _ _ _ h => h) (Or.inl ⟨by rfl, ?hyq65⟩) trivial ?restq65
                case hyq65 => (intro w1 hS; go_simp <;> with_reducible rfl)
                try simp only [Act.put, List.setIfInBounds_toArray, List.set_cons_zero, List.set_cons_succ]
                refine Tail.ready (rs := [23]) (by kernel_rfl) (by simp) (Tail.AllReadyL.cons rfl (fun K hK => ?_) Tail.AllReadyL.nil)
                go_simp
                refine hK.out _ _ trivial (fun hHeld => ?_)
                clear hK K
                obtain ⟨Y, hY⟩ : ∃ Y, Y = w2.alloc (.cells #[.int .i64 x1, .int .i64 x2, .bool on2] 75) := ⟨_, rfl⟩
                have hbk : Blk w2.heap.size 75 [.int .i64 x1, .int .i64 x2, .bool on2] Y := by rw [hY]; exact Blk.new_ w2 _ _
                have hdY : Below w2.heap.size w2 Y := by rw [hY]; exact bel_made w2 _ _
                rw [← hY]
                try simp only [Act.put, List.setIfInBounds_toArray, List.set_cons_zero, List.set_cons_succ]
                have odY := own_keep odw2 hdY
                have atY := hatw2.keep hdY
                have grY := grown_below grw2 hdY
                clear hY
                refine Tail.ready (rs := [24]) (by kernel_rfl) (by simp) (Tail.AllReadyL.cons rfl (fun K hK => ?_) Tail.AllReadyL.nil)
                refine step_app2 rfl (.tmp 118) (.tmp 141) 73 rfl W.heap.size 75 i1 (.agg #[.int .i64 0, .int .i64 0, .bool false]) 3 24 Tryd.underlying73 hi1 iz1 iy1 ib1 rfl (by decide) u14 j (ds.flatMap dotc) rfl odY ⟨w2.heap.size, 0, none⟩ 1 1 (dotc (x1, x2, on2)) rfl rfl (row_cells hbk) (dot_ok _) (by unfold maxLen; omega) (by omega) (Nat.le_trans (Nat.le_refl _) grY.size) ?_
                intro v6 w6 own6 grow6 nil6 _
                have hn6 : v6 ≠ .slice none 0 0 := fun h => hvn (nil6.1 h).1
                have at6 := blk_grown atY grow6 (own_ne odY (.inl hatW))
                have gr6 := grown_then grY grow6 (fun b hb => .inr (own_isT odY hb).2)
                refine hK.out _ _ trivial (fun hHeld => ?_)
                clear hK K
                try simp only [Act.put, List.setIfInBounds_toArray, List.set_cons_zero, List.set_cons_succ]
                refine Tail.take (i := 25) (v := ?vq66) rfl (by kernel_rfl) (by kernel_rfl) (by kernel_rfl) (by kernel_rfl) (by kernel_rfl) (fun _ _ _ h => h) (Or.inl ⟨by rfl, ?hyq66⟩) trivial ?restq66
                case hyq66 => (intro w1 hS; go_simp <;> with_reducible rfl)
                try simp only [Act.put, List.setIfInBounds_toArray, List.set_cons_zero, List.set_cons_succ]
                have HE := Lib.hid (And.intro own6 (And.intro hn6 (And.intro at6 gr6)))
                clear own6 grow6 nil6 hn6 at6 gr6 odY atY grY odX odw1 odw2 hatX hatw1 hatw2 grX grw1 grw2 hgw1 hgw2 hbX hbw1 hbw2 nbX nbw1 nbw2
                refine Tail.done (by kernel_rfl) ?_ _
                go_wp2
                go_roundw
                case rel =>
                  refine ⟨j + 1, ds ++ [(x1, x2, on2)], t' + 1 + 1, by omega, by go_num, by rw [List.length_append, hdl]; rfl, fun d hd => ?_, by omega, by rw [List.flatMap_append]; exact HE.out.1, HE.out.2.1, HE.out.2.2.1, HE.out.2.2.2⟩
                  rcases List.mem_append.1 hd with h | h
                  · exact hdo d h
                  · simp at h; subst h; exact ⟨hmx1, hmx2⟩
                case measure => simp [intOf]; omega
            · obtain rfl : j = J := by omega
              obtain ⟨gv, cv, hv, _, _, hgv, hgv2⟩ := open_row hod hvn
              subst hv
              have hatW : w.heap.size + 1 + 1 + 1 < W.heap.size := hat.lt
              go_upto_if 146 with (fail)
              go_cut [] (fun wx => ∃ ds2 : List Dot, ds2.length = j ∧ ((∀ d ∈ ds2, DotOk d) ∧ (j = 1 → (ds2.getD 0 (0, 0, false)).2.2 = true)) ∧ wx.ownsRow W.heap.size 75 3 (.slice (some ⟨gv, 0, none⟩) j cv) j (ds2.flatMap dotc) ∧ Blk (w.heap.size + 1 + 1 + 1) 3 [.int .i64 t'] wx ∧ W.grownBy wx (some (w.heap.size + 1 + 1 + 1)))
              case first =>
                by_cases hj1 : j = 1
                · have e1 : ((j : Int) == 1) = true := by rw [hj1]; rfl
                  obtain ⟨d, hd⟩ : ∃ d, ds = [d] := by
                    match ds, hdl with
                    | [d], _ => exact ⟨d, rfl⟩
                    | [], h => simp at h; omega
                    | a :: b :: r, h => simp at h; omega
                  have c2 := (hod.cellAt 2 (by omega)).trans (show (ds.flatMap dotc)[2]? = some (.bool d.2.2) from by rw [hd]; rfl)
                  have f2 := hod.frozenAt 2
                  obtain ⟨own2, grow2⟩ := hod.stored 2 (.bool true)
                  have hds : ((ds.flatMap dotc).set 2 (.bool true)) = ([(d.1, d.2.1, true)] : List Dot).flatMap dotc := by rw [hd]; rfl
                  rw [hds] at own2
                  have HE := Lib.hid (And.intro own2 (And.intro (hat'.other (c := gv) (i := 2) (v := .bool true) (by omega)) (grown_then hgr grow2 (fun b hb => by cases hb; exact .inr hgv2))))
                  have hdo2 := hdo d (by rw [hd]; simp)
                  clear own2 grow2 hod hgr hat' hds hd
                  go_wp2
                  go_meet
                  exact ⟨[(d.1, d.2.1, true)], by simp [hj1], ⟨fun x hx => by simp at hx; subst hx; exact hdo2, fun _ => rfl⟩, HE.out.1, HE.out.2.1, HE.out.2.2⟩
                · have e1 : ((j : Int) == 1) = false := by simp; omega
                  go_wp2
                  go_meet
                  exact ⟨ds, hdl, ⟨hdo, fun h => absurd h hj1⟩, hod, hat', hgr⟩
              case rest =>
                obtain ⟨ds2, hdl2, hdo2, hod2, hat2, hgr2⟩ := hcut
                have hg2 := blk_grown hg hgr2 (by intro h; injection h with h; omega)
                have hr2 := blk_grown hr hgr2 (by intro h; injection h with h; omega)
                have hnb2 := blk_grown hnb hgr2 (by intro h; injection h with h; omega)
                have hsame : Same T W wc (w.heap.size + 4) := Same.grown hgr2 (fun b hb => by cases hb; exact ⟨_, hat⟩) (by decide) (by decide) (by decide)
                obtain ⟨xs, hxo, hxi⟩ := hoc.same hsame
                have hbe2 : Below w.heap.size w wc := hbel.grown hgr2 hbel.size (fun g hg => by cases hg; omega)
                have g0 := hg2.cell (i := 0) rfl
                have gf := hg2.frozen 0
                rw [hcl] at hxo
                have hxo1 := hxo
                have HX := Lib.hid hxo
                have HXI := Lib.hid hxi
                have HD2 := Lib.hid hod2
                have HAT := Lib.hid hat2
                have HG2 := Lib.hid hg2
                have HR2 := Lib.hid hr2
                have HNB := Lib.hid hnb2
                have HBE := Lib.hid hbe2
                have hszW : W.heap.size ≤ wc.heap.size := hgr2.size
                clear hod hgr hat' hod2 hat2 hgr2 hg2 hr2 hnb2 hsame hbe2 hxo hxo1 hxi hoc hbel hat hg hr hnb
                go_wp2_with (at_builtin; refine wpList_append_own _ rfl _ _ 50 rfl (w.heap.size + 4) 73 i2 (.slice none 0 0) 1 24 Tryd.underlying50 hi2 iz2 iy2 ib2 rfl (by decide) _ _ _ rfl (HX.out.alloc _) ⟨wc.heap.size, 0, none⟩ 1 1 [.slice (some ⟨gv, 0, none⟩) j cv] rfl rfl ?c1 ?c2 ?c3 ?c4 ?c5 ?_)
                case c1 =>
                  intro q u hq
                  have h := (Blk.new_ wc #[.slice (some ⟨gv, 0, none⟩) j cv] 73).cell (i := q) (u := u) (by exact hq)
                  rw [Addr.add_lit, Nat.zero_add]
                  exact h
                case c2 => intro u hu; simp at hu; subst hu; rfl
                case c3 => unfold maxLen; omega
                case c4 => omega
                case c5 => have := HG2.out.lt; simp; omega
                intro v7 w7 own7 grow7 nil7
                have hv7 : v7 ≠ .slice none 0 0 := fun h => by first | exact nil7 h | exact absurd (nil7.1 h).2 (by omega)
                obtain ⟨g7, c7, hv7', _, _, _, _⟩ := open_row own7 hv7
                subst hv7'
                have hal := bel_made wc #[.slice (some ⟨gv, 0, none⟩) j cv] 73
                have kb : ∀ {b : Nat} {t : TypeId} {cs : List Value}, Blk b t cs wc → b < w.heap.size + 4 → Blk b t cs w7 := fun h hb => blk_grown (h.keep hal) grow7 (own_ne HX.out (.inl hb))
                have a7 := kb HAT.out (by omega)
                have g7' := kb HG2.out (by omega)
                have r7 := kb HR2.out (by omega)
                have n7 := kb HNB.out (by omega)
                have hpush := OwnCons.push (T := T) (w := wc.alloc (.cells #[.slice (some ⟨gv, 0, none⟩) j cv] 73)) (q := gv) (c := cv) (d := ds2) (by decide) (by rw [hcl]; exact HX.out.alloc _) (fun i hi => by obtain ⟨q, c', h1, h2, h3⟩ := HXI.out i hi; exact ⟨q, c', h1, h2.block (hal.block _ h2.1.lt), h3⟩) ((Row.of_own HD2.out (by omega)).block (hal.block _ (own_isT HD2.out rfl).1.lt)) (by have := own_cap HD2.out; omega) grow7 (by rw [hcl, hdl2]; exact own7)
                have hb7 : Below w.heap.size w w7 := (HBE.out.alloc HBE.out.size _).grown grow7 (by have := HBE.out.size; simp; omega) (fun g hg => by have := (own_isT (HX.out.alloc (.cells #[.slice (some ⟨gv, 0, none⟩) j cv] 73)) hg).2; omega)
                have gc := g7'.cell (i := 0) rfl
                have gfz := g7'.frozen 0
                have HF := Lib.hid (And.intro hpush (And.intro a7 (And.intro g7' (And.intro r7 (And.intro n7 hb7)))))
                clear hpush a7 g7' r7 n7 hb7 own7 grow7 nil7 hv7 hal kb
                go_wp2
                go_roundw
                case rel =>
                  refine ⟨k + 1, cs ++ [ds2], t', _, by omega, by go_num, by rw [List.length_append, hcl]; rfl, fun c hc => ?_, by omega, HF.out.2.1.other (by omega), HF.out.2.2.1.set_ 0 _, HF.out.2.2.2.1.other (by omega), HF.out.2.2.2.2.1.other (by omega), HF.out.1.same (same_set HF.out.2.2.1 (by decide) (by decide) (by decide) _), HF.out.2.2.2.2.2.setCell (p := ⟨w.heap.size + 1 + 1, 0, none⟩) (by simp; omega) _⟩
                  rcases List.mem_append.1 hc with h | h
                  · exact hco c h
                  · simp at h; subst h; exact ⟨by omega, by omega, hdo2.1, fun h => hdo2.2 (by omega)⟩
                case measure => simp [intOf]; omega
        · obtain rfl : k = K := by omega
          obtain ⟨xs, hxo, hxi⟩ := hoc
          obtain ⟨A2, n2, c2, hv2⟩ : ∃ A2 n2 c2, vc = .slice A2 n2 c2 := by
            rcases hxo.2 with ⟨h, _⟩ | ⟨g, cap, cur, h, _⟩
            · exact ⟨_, _, _, h⟩
            · exact ⟨_, _, _, h⟩
          subst hv2
          have hcons : OwnCons T wr (w.heap.size + 4) (.slice A2 n2 c2) cs := ⟨xs, hxo, hxi⟩
          have g0 := hg.cell (i := 0) rfl
          have g1 := hg.cell (i := 1) rfl
          have r0 := hr.cell (i := 0) rfl
          have r1 := hr.cell (i := 1) rfl
          have rf := hr.frozen
          have HR := Lib.hid hr
          have HC := Lib.hid hcons
          have HB := Lib.hid hbel
          have HCO := Lib.hid hco
          clear hat hg hr hnb hxo hxi hcons hbel hco
          go_wp2
          have hs1 : Same T wr ((wr.setCell ⟨w.heap.size + 1, 0, none⟩ (.slice A2 n2 c2)).setCell ⟨w.heap.size + 1, 1, none⟩ (.slice none 0 0)) (w.heap.size + 4) := fun g hB hg => by
            have h1 := same_set HR.out (T := T) (B := w.heap.size + 4) (i := 0) (by decide) (by decide) (by decide) (.slice A2 n2 c2) g hB hg
            have h2 := same_set (HR.out.set_ 0 (.slice A2 n2 c2)) (T := T) (B := w.heap.size + 4) (i := 1) (by decide) (by decide) (by decide) (.slice none 0 0) g hB (by
              rcases hg with ⟨c, h⟩ | ⟨c, h⟩ | ⟨c, h⟩
              · exact .inl ⟨c, h1.trans h⟩
              · exact .inr (.inl ⟨c, h1.trans h⟩)
              · exact .inr (.inr ⟨c, h1.trans h⟩))
            exact h2.trans h1
          exact bodyPost_ret (v := .agg #[.slice A2 n2 c2, .slice none 0 0]) (by simp [results, Tryd.results10, go_sem, r0, r1]) rfl ⟨_, _, (cs, []), rfl, ⟨(HC.out.same hs1).cons.mono (by omega), .inl ⟨rfl, rfl⟩⟩, .inl ⟨rfl, by simp; omega, HCO.out⟩, (HB.out.setCell (p := ⟨w.heap.size + 1, 0, none⟩) (by simp) _).setCell (p := ⟨w.heap.size + 1, 1, none⟩) (by simp) _⟩
end Go.Proofs.YthcdolgmifkfdaaDoor.GlyO
