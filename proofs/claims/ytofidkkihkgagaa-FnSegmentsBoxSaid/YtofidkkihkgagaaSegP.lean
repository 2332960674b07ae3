/- Contract of the thin package's box of a path. -/
import Derived.Test.YtofidkkihkgagaaSegO
namespace Go.Proofs.Ytofidkkihkgagaa.SegP
open Go.ChangeShapes Go.WideShapes Go.ChangeAt Go.RowKit
open Lst Mem SegM SegB SegO

theorem pointTo_any (a b : Int) (w : World) (ha : -2147483648 ≤ a ∧ a ≤ 2147483647) (hb : -2147483648 ≤ b ∧ b ≤ 2147483647) :
    Calls Try.prog 6 #[.agg #[.int .i64 a, .int .i64 b]] w fun e w' => e = .returned (.agg #[.int .i32 a, .int .i32 b]) ∧ Below w.heap.size w w' := by
  go_enter Try.func6, Try.ntmps6
  go_wp2
  exact bodyPost_ret (v := .agg #[.int .i32 a, .int .i32 b]) (by simp [results, Try.results6, go_sem]) rfl ⟨rfl, (bel_made w _ _).alloc (by simp) _⟩
theorem boxOf_any (a b c d : Int) (w : World) (ha : -2147483648 ≤ a ∧ a ≤ 2147483647) (hb : -2147483648 ≤ b ∧ b ≤ 2147483647) (hc : -2147483648 ≤ c ∧ c ≤ 2147483647) (hd : -2147483648 ≤ d ∧ d ≤ 2147483647) :
    Calls Try.prog 7 #[.agg #[.int .i32 a, .int .i32 b, .int .i32 c, .int .i32 d]] w fun e w' => e = .returned (.agg #[.int .i64 a, .int .i64 b, .int .i64 c, .int .i64 d]) ∧ Below w.heap.size w w' := by
  go_enter Try.func7, Try.ntmps7
  go_wp2
  exact bodyPost_ret (v := .agg #[.int .i64 a, .int .i64 b, .int .i64 c, .int .i64 d]) (by simp [results, Try.results7, go_sem]) rfl ⟨rfl, (bel_made w _ _).alloc (by simp) _⟩

theorem open_row {w : World} {B n sz : Nat} {e : TypeId} {v : Value} {xs : List Value} (ho : w.ownsRow B e sz v n xs) (hn : v ≠ .slice none 0 0) :
    ∃ g cap, v = .slice (some ⟨g, 0, none⟩) n cap ∧ At w g 0 xs ∧ n ≤ cap ∧ g < w.heap.size ∧ B ≤ g := by
  have ho' := ho
  rcases ho.2 with ⟨hv, _⟩ | ⟨g, cap, cur, rfl, hg, hh, hc, _⟩
  · exact absurd hv hn
  · refine ⟨g, cap, rfl, fun j u hu => ?_, hc, (Array.getElem?_eq_some_iff.1 hh).1, hg⟩
    have := ho'.cells (g := g) rfl j u hu
    simpa [Addr.add_lit] using this
theorem seg7info : (Try.prog.info? 52).map (fun i => (i.zero, i.size, i.bytes)) = some (some (.agg #[.int .u32 0, .int .i32 0, .int .i32 0, .int .i32 0, .int .i32 0, .int .i32 0, .int .i32 0]), 7, 28) := by kernel_rfl
theorem seg7_put (op : Int) (l : List Pt) (j : Nat) (hj : j < l.length) (h3 : l.length ≤ 3) : ((seg7 (op, l.take j)).set (1 + j * 2) (.int .i32 (l.getD j (0, 0)).1)).set (1 + j * 2 + 1) (.int .i32 (l.getD j (0, 0)).2) = seg7 (op, l.take (j + 1)) := by
  match l, j, hj, h3 with
  | [a], 0, _, _ => rfl
  | [a, b], 0, _, _ => rfl
  | [a, b], 1, _, _ => rfl
  | [a, b, c], 0, _, _ => rfl
  | [a, b, c], 1, _, _ => rfl
  | [a, b, c], 2, _, _ => rfl
theorem flat_take (S : List Sg) (k : Nat) (h : k < S.length) : (S.take (k + 1)).flatMap seg7 = (S.take k).flatMap seg7 ++ seg7 (S.getD k (0, [])) := by
  rw [List.take_succ_eq_append_getElem h, List.getD_eq_getElem?_getD, List.getElem?_eq_getElem h, List.flatMap_append, List.flatMap_cons, List.flatMap_nil, List.append_nil]
  rfl
theorem pts_nil {S : List Sg} (hS : ∀ s ∈ S, Sgk s) : pts S = [] ↔ S = [] := by
  constructor
  · intro h
    cases S with
    | nil => rfl
    | cons s S =>
      exfalso
      have hk := (hS s (by simp)).2.1
      have hs : s.2 = [] := by
        unfold pts at h
        rw [List.flatMap_cons] at h
        exact (List.append_eq_nil_iff.1 h).1
      rw [hs] at hk
      unfold cnt at hk
      split at hk <;> first | (simp at hk; done) | (split at hk <;> simp at hk)
  · intro h; subst h; rfl

theorem fmin {α : Type} (f : α → Int) (lo : Int) : ∀ (Q : List α) (a : Int), lo ≤ a → (∀ p ∈ Q, lo ≤ f p) → lo ≤ Q.foldl (fun a p => min a (f p)) a ∧ Q.foldl (fun a p => min a (f p)) a ≤ a
  | [], a, h, _ => ⟨h, Int.le_refl _⟩
  | p :: Q, a, h, hq => by
    have hp := hq p (by simp)
    obtain ⟨h1, h2⟩ := fmin f lo Q (min a (f p)) (by omega) (fun q hm => hq q (by simp [hm]))
    exact ⟨h1, by simp only [List.foldl_cons]; omega⟩
theorem fmax {α : Type} (f : α → Int) (hi : Int) : ∀ (Q : List α) (a : Int), a ≤ hi → (∀ p ∈ Q, f p ≤ hi) → a ≤ Q.foldl (fun a p => max a (f p)) a ∧ Q.foldl (fun a p => max a (f p)) a ≤ hi
  | [], a, h, _ => ⟨Int.le_refl _, h⟩
  | p :: Q, a, h, hq => by
    have hp := hq p (by simp)
    obtain ⟨h1, h2⟩ := fmax f hi Q (max a (f p)) (by omega) (fun q hm => hq q (by simp [hm]))
    exact ⟨by simp only [List.foldl_cons]; omega, h2⟩
theorem pts_bd {S : List Sg} (hS : ∀ s ∈ S, Sgk s) : ∀ p ∈ pts S, (-32768 ≤ p.1 ∧ p.1 ≤ 32767) ∧ (-32768 ≤ p.2 ∧ p.2 ≤ 32767) := by
  intro p hp
  unfold pts at hp
  obtain ⟨s, hs, hps⟩ := List.mem_flatMap.1 hp
  exact (hS s hs).2.2 p hps
theorem q0_bd {S : List Sg} (hS : ∀ s ∈ S, Sgk s) : (-2147483648 ≤ q0 (pts S) lx ∧ q0 (pts S) lx ≤ 2147483647) ∧ (-2147483648 ≤ q0 (pts S) ly ∧ q0 (pts S) ly ≤ 2147483647) ∧ (-2147483648 ≤ q0 (pts S) hx ∧ q0 (pts S) hx ≤ 2147483647) ∧ (-2147483648 ≤ q0 (pts S) hy ∧ q0 (pts S) hy ≤ 2147483647) := by
  have hb := pts_bd hS
  have h1 := fmin (fun p : Pt => p.1) (-32768) (pts S) 2147483647 (by omega) (fun p hp => (hb p hp).1.1)
  have h2 := fmin (fun p : Pt => p.2) (-32768) (pts S) 2147483647 (by omega) (fun p hp => (hb p hp).2.1)
  have h3 := fmax (fun p : Pt => p.1) 32767 (pts S) (-2147483648) (by omega) (fun p hp => (hb p hp).1.2)
  have h4 := fmax (fun p : Pt => p.2) 32767 (pts S) (-2147483648) (by omega) (fun p hp => (hb p hp).2.2)
  unfold q0
  by_cases he : pts S = []
  · simp [he]
  · simp only [if_neg he]
    unfold lx ly hx hy
    omega

set_option maxHeartbeats 3200000 in
set_option maxRecDepth 4000 in
theorem segbox_any (A : Option Addr) (n c : Nat) (S : List Sg) (w : World) (hn : n = S.length) (hsz : n ≤ 1000) (hS : ∀ s ∈ S, Sgk s) (hA : 0 < n → ∃ b, A = some ⟨b, 0, none⟩ ∧ b < w.heap.size ∧ Segs w b S) :
    Calls Try.prog 5 #[.slice A n c] w fun e w' => e = .returned (.agg (box64 (pts S)).toArray) ∧ Below w.heap.size w w' := by
  obtain ⟨i0, hi0, hz0, hz1, hz2⟩ := info_parts seg7info
  have HN := Lib.hid hn
  have HS := Lib.hid hS
  have HA := Lib.hid hA
  clear hn hS hA
  go_enter Try.func5, Try.ntmps5
  go_wp2
  go_loopw [3, 11] (fun v i wr => ∃ k : Nat, k ≤ n ∧ i = .int .i64 k ∧ wr.ownsRow (w.heap.size + 1) 52 7 v k ((S.take k).flatMap seg7) ∧ (v = .slice none 0 0 ↔ k = 0) ∧ w.heap.size < wr.heap.size ∧ Blk w.heap.size 40 (b64 0 0 0 0) wr ∧ Below w.heap.size w wr) (fun _ i _ => n - (intOf i).toNat)
  case atStart => exact ⟨0, Nat.zero_le _, rfl, World.ownsRow_nil _ _ _ _, by simp, by simp, Blk.new_ w _ _, bel_made w _ _⟩
  case round =>
    obtain ⟨k, hk, rfl, hown, hnil, hrs, hres, hbel⟩ := hrel
    by_cases hlt : k < n
    · have hlS : k < S.length := by rw [← HN.out]; exact hlt
      obtain ⟨b, rfl, hb, hsg⟩ := HA.out (by omega)
      obtain ⟨h1, g, cg, h2, h3, h4⟩ := hsg k hlS
      obtain ⟨s, hs⟩ : ∃ s, s = S.getD k (0, []) := ⟨_, rfl⟩
      have hsk : Sgk s := by rw [hs]; exact HS.out _ (getD_mem S k _ hlS)
      rw [← hs] at h1 h2 h3
      have c0 := (hbel.cell (p := ⟨b, k * 2, none⟩) hb).trans h1
      have c1 := (hbel.cell (p := ⟨b, k * 2 + 1, none⟩) hb).trans h2
      obtain ⟨m, hm⟩ : ∃ m, m = s.2.length := ⟨_, rfl⟩
      have hm3 : m ≤ 3 := by rw [hm, hsk.2.1]; unfold cnt; split; omega; split <;> omega
      rw [← hm] at c1
      obtain ⟨op, hop⟩ : ∃ op, op = s.1 := ⟨_, rfl⟩
      have hop3 : 0 ≤ op ∧ op ≤ 3 := by rw [hop]; exact hsk.1
      rw [← hop] at c0
      have hsp : s = (op, s.2) := by rw [hop]
      have wop : IntKind.u32.wrap op = op := IntWalk.u32_in _ (by omega)
      have HSK := Lib.hid hsk
      have HSS := Lib.hid hs
      have HSP := Lib.hid hsp
      have HPT := Lib.hid h3
      have HM := Lib.hid hm
      have HO := Lib.hid hown
      have HNI := Lib.hid hnil
      have HRS := Lib.hid hres
      have HBL := Lib.hid hbel
      obtain ⟨W, hW⟩ : ∃ W, W = wr := ⟨_, rfl⟩
      subst hW
      clear hsk hs hsp hbel hres h1 h2 h3 hm hsg HA hop hown hnil
      go_wp2
      go_loopw [22] (fun i wq => ∃ j : Nat, j ≤ m ∧ i = .int .i64 j ∧ Blk (W.heap.size + 1) 52 (seg7 (op, s.2.take j)) wq ∧ Below W.heap.size W wq ∧ W.heap.size + 1 < wq.heap.size) (fun i _ => m - (intOf i).toNat)
      case atStart =>
        refine ⟨0, Nat.zero_le _, rfl, ?_, (bel_made W _ _).alloc (by simp) _, by simp⟩
        have h := Blk.new_ (W.alloc (.cells #[.int .i64 op, .slice (some ⟨g, 0, none⟩) m cg] 28)) #[.int .u32 op, .int .i32 0, .int .i32 0, .int .i32 0, .int .i32 0, .int .i32 0, .int .i32 0] 52
        rw [World.size_alloc] at h
        exact h
      case round =>
        obtain ⟨j, hj, rfl, hx, hbel, hsz2⟩ := hrel
        by_cases hjm : j < m
        · have hjl : j < s.2.length := by rw [← HM.out]; exact hjm
          have hput := seg7_put op s.2 j hjl (by rw [← HM.out]; exact hm3)
          obtain ⟨p, hp⟩ : ∃ p, p = s.2.getD j (0, 0) := ⟨_, rfl⟩
          obtain ⟨u0, u1⟩ := pt_at HPT.out hjl
          rw [← hp] at u0 u1 hput
          have hbq := HBL.out.trans (hbel.mono HBL.out.size)
          have d0 := (hbq.cell (p := ⟨g, j * 2, none⟩) h4).trans u0
          have d1 := (hbq.cell (p := ⟨g, j * 2 + 1, none⟩) h4).trans u1
          have hpb := HSK.out.2.2 p (by rw [hp]; exact getD_mem _ _ _ hjl)
          obtain ⟨px, hpx⟩ : ∃ x, x = p.1 := ⟨_, rfl⟩
          obtain ⟨py, hpy⟩ : ∃ x, x = p.2 := ⟨_, rfl⟩
          rw [← hpx] at d0 hpb hput
          rw [← hpy] at d1 hpb hput
          have hj3 : (j : Int) < 3 := by omega
          have HP := Lib.hid hput
          have HX := Lib.hid hx
          have HBQ := Lib.hid hbel
          clear hput hx hbel hbq hp hpx hpy u0 u1 c0 c1
          go_wp2_with fail
          refine (pointTo_any px py _ (by omega) (by omega)).mono ?_
          rintro e w1 ⟨rfl, hb1⟩
          have hx1 := (HX.out.keep (bel_made wr _ _)).keep hb1
          obtain ⟨s0, s1⟩ := seg7_at (op, s.2.take j) j (by omega)
          have x0 := hx1.cell s0
          have x1 := hx1.cell s1
          have xf := hx1.frozen
          have hw1 := (HBQ.out.alloc HBQ.out.size _).trans (hb1.mono (by have := HBQ.out.size; simp; omega))
          have hsz3 := hb1.size
          have HX1 := Lib.hid hx1
          have HW1 := Lib.hid hw1
          clear hx1 hw1 hb1 s0 s1
          go_wp2
          go_roundw
          case rel =>
            refine ⟨j + 1, by omega, by go_num, ?_, (HW1.out.setCell (p := ⟨W.heap.size + 1, _, none⟩) (by simp) _).setCell (p := ⟨W.heap.size + 1, _, none⟩) (by simp) _, by simp at hsz3 ⊢; omega⟩
            rw [← HP.out]
            exact (HX1.out.set_ _ _).set_ _ _
          case measure => simp [intOf]; omega
        · obtain rfl : j = m := by omega
          rw [List.take_of_length_le (by rw [← HM.out]; exact Nat.le_refl _), ← HSP.out] at hx
          have x0 := hx.cell (i := 0) rfl
          have x1 := hx.cell (i := 1) rfl
          have x2 := hx.cell (i := 2) rfl
          have x3 := hx.cell (i := 3) rfl
          have x4 := hx.cell (i := 4) rfl
          have x5 := hx.cell (i := 5) rfl
          have x6 := hx.cell (i := 6) rfl
          have HO2 := Lib.hid (own_keep HO.out hbel)
          have HB2 := Lib.hid (HBL.out.trans (hbel.mono HBL.out.size))
          have HR2 := Lib.hid (HRS.out.keep hbel)
          have hft := flat_take S k hlS
          rw [← HSS.out] at hft
          have HFT := Lib.hid hft
          have hsz4 := hbel.size
          clear hx hbel hft c0 c1
          go_wp2_with (at_builtin; refine wpList_append_own _ rfl _ _ 44 rfl (w.heap.size + 1) 52 i0 (.agg #[.int .u32 0, .int .i32 0, .int .i32 0, .int .i32 0, .int .i32 0, .int .i32 0, .int .i32 0]) 7 28 Try.underlying44 hi0 hz0 hz1 hz2 rfl (by decide) _ _ _ rfl (HO2.out.alloc _) ⟨wr.heap.size, 0, none⟩ 1 1 (seg7 s) rfl rfl ?c1 ?c2 ?c3 ?c4 ?c5 ?_)
          case c1 =>
            intro q u hq
            have h := (Blk.new_ wr #[.int .u32 s.1, .int .i32 (pt s 0).1, .int .i32 (pt s 0).2, .int .i32 (pt s 1).1, .int .i32 (pt s 1).2, .int .i32 (pt s 2).1, .int .i32 (pt s 2).2] 52).cell (i := q) (u := u) (by exact hq)
            rw [Addr.add_lit, Nat.zero_add]
            exact h
          case c2 => intro u hu; simp [seg7] at hu; rcases hu with rfl | rfl | rfl | rfl | rfl | rfl | rfl <;> rfl
          case c3 => unfold maxLen; omega
          case c4 => omega
          case c5 => simp; omega
          intro v6 w6 own6 grow6 nil6
          have hb6 : Below w.heap.size w w6 := (HB2.out.alloc HB2.out.size _).grown grow6 (by have := HB2.out.size; simp; omega) (fun g hg => by have := own_ge HO2.out hg; omega)
          have hr6 : Blk w.heap.size 40 (b64 0 0 0 0) w6 := by
            unfold Blk
            rw [grow6.block w.heap.size (by simp; omega) (fun h => by have := own_ge HO2.out h.symm; omega)]
            exact HR2.out.keep (bel_made wr _ _)
          have ho6 : w6.ownsRow (w.heap.size + 1) 52 7 v6 (k + 1) ((S.take (k + 1)).flatMap seg7) := by
            rw [HFT.out]
            exact own6
          have hn6 : v6 = .slice none 0 0 ↔ k + 1 = 0 := ⟨fun h => by first | exact absurd h nil6 | exact absurd (nil6.1 h).2 (by omega), fun h => by omega⟩
          have hs6 := grow6.size
          have HE := Lib.hid (And.intro ho6 (And.intro hn6 (And.intro hr6 hb6)))
          clear ho6 hn6 hr6 hb6 own6 grow6 nil6
          go_wp2
          go_roundw
          case rel => exact ⟨k + 1, by omega, by go_num, HE.out.1, HE.out.2.1, by simp at hs6; omega, HE.out.2.2.1, HE.out.2.2.2⟩
          case measure => simp [intOf]; omega
    · obtain rfl : k = n := by omega
      rw [List.take_of_length_le (by rw [← HN.out]; exact Nat.le_refl _)] at hown
      obtain ⟨A3, c3, hv3, hA3⟩ : ∃ A3 c3, u3 = .slice A3 k c3 ∧ (0 < k → ∃ b, A3 = some ⟨b, 0, none⟩ ∧ b < wr.heap.size ∧ At wr b 0 (S.flatMap seg7)) := by
        by_cases h0 : k = 0
        · exact ⟨none, 0, by rw [h0]; exact hnil.2 h0, fun h => by omega⟩
        · obtain ⟨g, cap, h1, h2, _, h3, _⟩ := open_row hown (fun h => h0 (hnil.1 h))
          exact ⟨_, cap, h1, fun _ => ⟨g, rfl, h3, h2⟩⟩
      subst hv3
      have HBD := Lib.hid (bounds_any A3 k c3 S wr HN.out hsz HS.out hA3)
      have HR3 := Lib.hid hres
      have HB3 := Lib.hid hbel
      have hpn := pts_nil HS.out
      have hk0 : (k = 0 ↔ pts S = []) := by
        rw [hpn, HN.out]
        exact List.length_eq_zero_iff
      have HK0 := Lib.hid hk0
      clear hown hnil hA3 hres hbel hpn hk0
      go_wp2_with fail
      refine HBD.out.mono ?_
      rintro e w5 ⟨rfl, hb5⟩
      obtain ⟨a, ha⟩ : ∃ x, x = q0 (pts S) lx := ⟨_, rfl⟩
      obtain ⟨b, hb⟩ : ∃ x, x = q0 (pts S) ly := ⟨_, rfl⟩
      obtain ⟨c', hc⟩ : ∃ x, x = q0 (pts S) hx := ⟨_, rfl⟩
      obtain ⟨d, hd⟩ : ∃ x, x = q0 (pts S) hy := ⟨_, rfl⟩
      have hif : (if k = 0 then #[Value.int .i32 0, .int .i32 0, .int .i32 0, .int .i32 0] else #[.int .i32 (lx (pts S)), .int .i32 (ly (pts S)), .int .i32 (hx (pts S)), .int .i32 (hy (pts S))]) = #[.int .i32 a, .int .i32 b, .int .i32 c', .int .i32 d] := by
        by_cases h0 : k = 0
        · rw [if_pos h0, ha, hb, hc, hd]
          simp [q0, HK0.out.1 h0]
        · rw [if_neg h0, ha, hb, hc, hd]
          have hne : pts S ≠ [] := fun h => h0 (HK0.out.2 h)
          simp [q0, hne]
      obtain ⟨ra, rb, rc, rd⟩ := q0_bd HS.out
      rw [← ha] at ra
      rw [← hb] at rb
      rw [← hc] at rc
      rw [← hd] at rd
      rw [hif]
      have HF := Lib.hid (show (box64 (pts S)).toArray = #[.int .i64 a, .int .i64 b, .int .i64 c', .int .i64 d] from by rw [box64, ← ha, ← hb, ← hc, ← hd]; rfl)
      have HB5 := Lib.hid (HB3.out.trans (hb5.mono HB3.out.size))
      have HR5 := Lib.hid (HR3.out.keep hb5)
      clear hif ha hb hc hd hb5
      go_wp2_with fail
      refine (boxOf_any a b c' d w5 ra rb rc rd).mono ?_
      rintro e w6 ⟨rfl, hb6⟩
      have hr6 := HR5.out.keep hb6
      have HB6 := Lib.hid (HB5.out.trans (hb6.mono HB5.out.size))
      obtain ⟨⟨y0, y1, y2, y3⟩, yf⟩ := b64_cells hr6
      clear hb6 hr6
      go_wp2
      exact bodyPost_ret (v := .agg #[.int .i64 a, .int .i64 b, .int .i64 c', .int .i64 d]) (by simp [results, Try.results5, go_sem, y0, y1, y2, y3]) rfl ⟨by rw [HF.out], set4_bel HB6.out (Nat.le_refl _)⟩
end Go.Proofs.Ytofidkkihkgagaa.SegP
