/- Contract of the reference's class table: from the first glyph on, or of ranges; and a map of the call's own that tells glyphs' classes. -/
import Derived.Test.YtbpcmdgfgibbjaaDoorClsK
import Derived.Test.YtbpcmdgfgibbjaaDoorCovS
import Derived.Maps.OwnOps
namespace Go.Proofs.YtbpcmdgfgibbjaaDoor.ClsS
open Go.ChangeShapes Go.WideShapes Go.ChangeAt Go.RowKit Go.Maps
open Lst Mem SpecB SfntB View RunsL ClsK
open ListB (Asc step_app intinfo)
open CovZ (own_base)
open CovA (below_draws)

theorem keyI : Keyed Tryd.prog 3 := int_keyed Tryd.underlying3
theorem zeroI (w : World) : (zeroValue 3).run Tryd.prog w = .ok (.int .i64 0) w := by kernel_rfl
/-- block M is a map that tells the classes of L's glyphs -/
def IsCls (w : World) (M : Nat) (L : List Int) : Prop :=
  ∃ n, ∃ D : DataW Unit, w.ownsMap Tryd.prog 3 (plainElem Tryd.prog 3) M n D ∧ ∀ x, (Lit.int .i64 x).wf = true → D.atKey (.int .i64 x) (.lit (.int .i64 0)) = .lit (.int .i64 (cls L x))
theorem IsCls.lt {w : World} {M : Nat} {L : List Int} (h : IsCls w M L) : M < w.heap.size := by obtain ⟨n, D, h, _⟩ := h; exact h.lt
theorem IsCls.below {w w' : World} {M B : Nat} {L : List Int} (h : IsCls w M L) (hb : Below B w w') (hM : M < B) : IsCls w' M L := by
  obtain ⟨n, D, ⟨es, clock, h1, h2, h3, h4⟩, hat⟩ := h
  exact ⟨n, D, ⟨es, clock, (hb.block M hM).trans h1, h2, h3, h4⟩, hat⟩
theorem IsCls.look {w : World} {M : Nat} {L : List Int} (h : IsCls w M L) {x : Int} (hx : (Lit.int .i64 x).wf = true) : (Instr.lookup 25 (.map (some M)) (.int .i64 x) false).run Tryd.prog w = .ok (.int .i64 (cls L x)) w := by
  obtain ⟨n, D, hown, hat⟩ := h
  obtain ⟨c, hrun, hc, _⟩ := hown.lookup_int keyI Tryd.underlying25 Tryd.underlying3 (zeroI w) (keyOf_int_mk Tryd.underlying3 hx)
  rw [hat x hx] at hc
  have he : cls L x = c := by simpa using hc
  rw [he]
  exact hrun

/-- a table's bytes, in a row of the call's own -/
def Table (L : List Int) (ranges : Bool) (w : World) (e : Ending) (w' : World) : Prop :=
  ∃ v bs, e = .returned v ∧ Clb L ranges bs ∧ w'.ownsRow w.heap.size 5 1 v bs.length (vals .u8 bs) ∧ v ≠ .slice none 0 0 ∧ Below w.heap.size w w'

set_option maxHeartbeats 3200000 in
set_option maxRecDepth 4000 in
theorem plain_any (g n c M : Nat) (L : List Int) (w : World) (hn : n = L.length) (h0 : 0 < n) (hsz : n ≤ 1000) (hL : ∀ x ∈ L, 0 ≤ x ∧ x ≤ 65535) (hasc : Asc L) (hA : At w g 0 (vals .i64 L)) (hg : g < w.heap.size) (hc : IsCls w M L) (hsp : span L ≤ 2000) :
    Calls Tryd.prog 6 #[.slice (some ⟨g, 0, none⟩) n c, .map (some M), .bool false] w (Table L false w) := by
  obtain ⟨i0, hi0, hz0, hz1, hz2⟩ := info_parts u8info
  have getb : ∀ j, j < n → 0 ≤ L.getD j 0 ∧ L.getD j 0 ≤ 65535 := fun j hj => by
    rw [List.getD_eq_getElem?_getD, List.getElem?_eq_getElem (by rw [← hn]; exact hj)]
    exact hL _ (List.getElem_mem _)
  have hcell : ∀ (W : World), Below w.heap.size w W → ∀ j, j < n → W.cell? ⟨g, j, none⟩ = some (.int .i64 (L.getD j 0)) := fun W hb j hj => by
    have h := (hA.below hb hg).get (j := j) (by rw [← hn]; exact hj)
    rwa [Nat.zero_add] at h
  have hlook : ∀ (W : World), Below w.heap.size w W → ∀ x : Int, 0 ≤ x → x ≤ 1000000 → (Instr.lookup 25 (.map (some M)) (.int .i64 x) false).run Tryd.prog W = .ok (.int .i64 (cls L x)) W := fun W hb x h1 h2 => (hc.below hb hc.lt).look (WalkArith.wf_i64 (by omega))
  have f0 := getb 0 h0
  have f1 := getb (n - 1) (by omega)
  have hmono := asc_mono hasc (a := 0) (b := n - 1) (by omega) (by omega)
  have hspe : (span L : Int) = L.getD (n - 1) 0 - L.getD 0 0 + 1 := by
    unfold span
    rw [← hn]
    omega
  obtain ⟨S, hS⟩ : ∃ S, S = span L := ⟨_, rfl⟩
  rw [← hS] at hsp hspe
  obtain ⟨a, ha⟩ : ∃ a, a = L.getD 0 0 := ⟨_, rfl⟩
  obtain ⟨b, hb⟩ : ∃ b, b = L.getD (n - 1) 0 := ⟨_, rfl⟩
  rw [← ha] at f0 hmono hspe
  rw [← hb] at f1 hmono hspe
  have ca := hcell w (Below.refl _ _) 0 h0
  have cb := fun W hb => hcell W hb (n - 1) (by omega)
  rw [← ha] at ca
  rw [← hb] at cb
  have HCA := Lib.hid (fun W (hb : Below w.heap.size w W) => (show W.cell? ⟨g, 0, none⟩ = some (.int .i64 a) from by rw [ha]; exact hcell W hb 0 h0))
  have HCB := Lib.hid cb
  have HLK := Lib.hid hlook
  have HS := Lib.hid hS
  have HA := Lib.hid ha
  have HL := Lib.hid (line_len L)
  have HAT := Lib.hid (line_at L)
  have e1 : (n : Int) - 1 = ((n - 1 : Nat) : Int) := by omega
  have HSP := Lib.hid hspe
  clear getb hcell hlook hn hL hasc hA hc hb ha hS cb hspe
  go_enter Tryd.func6, Tryd.ntmps6
  go_wp2
  go_loopw [7, 8] (fun out x wr => ∃ j : Nat, j ≤ S ∧ x = .int .i64 (a + (j : Int)) ∧ wr.ownsRow w.heap.size 5 1 out (2 * j) (vals .u8 (words ((line L).take j))) ∧ out ≠ .slice none 0 0 ∧ Below w.heap.size w wr) (fun _ x _ => (b + 1 - intOf x).toNat)
  case atStart => exact ⟨0, Nat.zero_le _, by go_num, made_row w _, by simp, bel_made w _ _⟩
  case round =>
    obtain ⟨j, hj, rfl, hown, hnil, hbel⟩ := hrel
    have HO := Lib.hid hown
    have HB := Lib.hid hbel
    have HNN := Lib.hid hnil
    have cb := HCB.out _ hbel
    clear hown hbel hnil
    by_cases hjS : j < S
    · have hlt : a + (j : Int) ≤ b := by have := HSP.out; omega
      have hk := HLK.out _ HB.out (a + (j : Int)) (by omega) (by omega)
      obtain ⟨y, hy⟩ : ∃ y, y = cls L (a + (j : Int)) := ⟨_, rfl⟩
      have hyb := cls_bd L (a + (j : Int))
      rw [← hy] at hk hyb
      have HY := Lib.hid hy
      clear hy
      have htk : words ((line L).take (j + 1)) = words ((line L).take j) ++ [hi y, lo y] := by
        rw [take_snoc (line L) j (by rw [HL.out, ← HS.out]; exact hjS), words_snoc, HAT.out j (by rw [← HS.out]; exact hjS), ← HA.out, ← HY.out]
      have HT := Lib.hid htk
      clear htk
      go_wp2_with fail
      refine (two_at _ _).mono ?_
      rintro e w1 ⟨rfl, rfl⟩
      go_wp2_with (at_builtin; refine wpList_append_own _ rfl _ _ 26 rfl w.heap.size 5 i0 (.int .u8 0) 1 1 Tryd.underlying26 hi0 hz0 hz1 hz2 rfl (by decide) _ _ _ rfl (HO.out.alloc _) ⟨wr.heap.size, 0, none⟩ 2 2 [.int .u8 (hi y), .int .u8 (lo y)] rfl rfl ?c1 ?c2 ?c3 ?c4 ?c5 ?_)
      case c1 =>
        intro j u hj
        match j, hj with
        | 0, hj => simp at hj; subst hj; simp [Addr.add]
        | 1, hj => simp at hj; subst hj; simp [Addr.add]
      case c2 => intro u hu; simp at hu; rcases hu with rfl | rfl <;> rfl
      case c3 => unfold maxLen; omega
      case c4 => omega
      case c5 => have := HB.out.size; simp; omega
      intro v' w1 hown' hgrow hnil
      have hb1 : Below w.heap.size w w1 := (HB.out.alloc HB.out.size _).grown hgrow (by have := HB.out.size; simp; omega) (fun g hg => own_ge HO.out hg)
      have hn1 : v' ≠ .slice none 0 0 := fun h => by first | exact hnil h | exact HNN.out (hnil.1 h).1
      have ho1 : w1.ownsRow w.heap.size 5 1 v' (2 * (j + 1)) (vals .u8 (words ((line L).take (j + 1)))) := by
        rw [HT.out, vals_app]
        exact hown'
      have HE := Lib.hid (And.intro ho1 (And.intro hn1 hb1))
      clear ho1 hb1 hn1 hown' hgrow hnil
      go_wp2
      go_roundw
      case rel => exact ⟨j + 1, by omega, by go_num, HE.out.1, HE.out.2.1, HE.out.2.2⟩
      case measure => simp [intOf]; omega
    · obtain rfl : j = S := by omega
      have hlt : ¬ (a + (j : Int) ≤ b) := by have := HSP.out; omega
      have ca2 := HCA.out _ HB.out
      obtain ⟨g5, cap5, rfl, hA5, hcap5, hg5, hg5'⟩ := own_open HO.out HNN.out
      rw [List.take_of_length_le (by rw [HL.out, ← HS.out]; exact Nat.le_refl _)] at hA5
      have hwl : (words (line L)).length = 2 * j := by rw [words_len, HL.out, ← HS.out]
      have HA5 := Lib.hid hA5
      have q1 : (2 * (j : Int)) / 2 = (j : Int) := by omega
      clear hA5
      go_wp2_with fail
      refine (words_any wr.heap.size 0 3 [1, a, (j : Int)] (wr.alloc (.cells #[.int .i64 1, .int .i64 a, .int .i64 (j : Int)] 3)) (by simp) (CovS.ints_at wr [1, a, (j : Int)] _ rfl) (by simp; omega) (by simp)).mono ?_
      intro e w1 hm
      have hM := hm
      obtain ⟨g1, cap1, rfl, hA1, hcap1, hg1, hg1', hb1⟩ := made_open hm
      have HB1 := Lib.hid ((HB.out.alloc HB.out.size (.cells #[.int .i64 1, .int .i64 a, .int .i64 (j : Int)] 3)).trans (hb1.mono (by have := HB.out.size; simp; omega)))
      obtain ⟨v1, hv1, ho1, _, _⟩ := hM
      injection hv1 with hv1
      subst hv1
      have HO1 := Lib.hid (own_base (B' := w.heap.size) ho1 (by have := HB.out.size; simp; omega))
      have hr2 := Rd.of_At (c := cap5) ((HA5.out.keep (bel_made wr #[.int .i64 1, .int .i64 a, .int .i64 (j : Int)] 3)).keep hb1)
      rw [vals_len, hwl] at hr2
      have HR2 := Lib.hid hr2
      clear hm hb1 ho1 hA1 hr2
      go_wp2_with (at_builtin; go_loud (refine app_any rfl _ _ 26 rfl w.heap.size 5 i0 (.int .u8 0) 1 Tryd.underlying26 hi0 hz0 hz1 hz2 rfl _ _ _ rfl HO1.out (some ⟨g5, 0, none⟩) (2 * j) cap5 (vals .u8 (words (line L))) rfl HR2.out (vals_one _ _) ?d3 ?d4 HB1.out.size ?_))
      case d3 => unfold maxLen; rw [show (words [1, a, (j : Int)]).length = 6 from rfl]; omega
      case d4 => rw [show (words [1, a, (j : Int)]).length = 6 from rfl]; omega
      intro v3 w3 hown3 hgrow3 hnil3
      have hb3 : Below w.heap.size w w3 := HB1.out.grown hgrow3 HB1.out.size (fun g hg => own_ge HO1.out hg)
      have hn3 : v3 ≠ .slice none 0 0 := fun h => by first | exact hnil3 h | (have h' := (hnil3.1 h).1; cases h')
      have ho3 : w3.ownsRow w.heap.size 5 1 v3 (words [1, a, (j : Int)] ++ words (line L)).length (vals .u8 (words [1, a, (j : Int)] ++ words (line L))) := by
        rw [List.length_append, vals_app, hwl]
        exact hown3
      have HE := Lib.hid (And.intro ho3 (And.intro hn3 hb3))
      clear hb3 hn3 ho3 hown3 hgrow3 hnil3
      go_wp2
      go_ret
      refine ⟨_, _, rfl, ?_, HE.out.1, HE.out.2.1, HE.out.2.2⟩
      simp only [Clb, HA.out, HS.out]
      simp

/-- the records of runs, as bytes -/
def recs (L : List Int) (P : List (Nat × Nat)) : List Int := words (trip L (fun a => cls L (L.getD a 0)) P)
theorem recs_len (L : List Int) (P : List (Nat × Nat)) : (recs L P).length = 6 * P.length := by rw [recs, words_len, trip_len]; omega
theorem recs_snoc (L : List Int) (P : List (Nat × Nat)) (p : Nat × Nat) : recs L (P ++ [p]) = recs L P ++ words [L.getD p.1 0, L.getD p.2 0, cls L (L.getD p.1 0)] := by simp [recs, trip_snoc, words]

set_option maxHeartbeats 3200000 in
set_option maxRecDepth 4000 in
theorem ranges_any (g n c M : Nat) (L : List Int) (w : World) (hn : n = L.length) (hsz : n ≤ 1000) (hL : ∀ x ∈ L, 0 ≤ x ∧ x ≤ 65535) (hA : At w g 0 (vals .i64 L)) (hg : g < w.heap.size) (hc : IsCls w M L) (hnc : n ≤ c) :
    Calls Tryd.prog 6 #[.slice (some ⟨g, 0, none⟩) n c, .map (some M), .bool true] w (Table L true w) := by
  obtain ⟨i0, hi0, hz0, hz1, hz2⟩ := info_parts u8info
  have HN := Lib.hid hn
  have HL := Lib.hid (fun j (hj : j < n) => (show 0 ≤ L.getD j 0 ∧ L.getD j 0 ≤ 65535 from by
    rw [List.getD_eq_getElem?_getD, List.getElem?_eq_getElem (by rw [← hn]; exact hj)]
    exact hL _ (List.getElem_mem _)))
  have HA := Lib.hid (fun (W : World) (hb : Below w.heap.size w W) j (hj : j < n) => (show W.cell? ⟨g, j, none⟩ = some (.int .i64 (L.getD j 0)) from by
    have h := (hA.below hb hg).get (j := j) (by rw [← hn]; exact hj)
    rwa [Nat.zero_add] at h))
  have HLK := Lib.hid (fun (W : World) (hb : Below w.heap.size w W) (x : Int) (h1 : 0 ≤ x) (h2 : x ≤ 1000000) => (hc.below hb hc.lt).look (x := x) (WalkArith.wf_i64 (by omega)))
  clear hn hL hA hc
  go_enter Tryd.func6, Tryd.ntmps6
  go_wp2
  go_loopw [9, 10, 11] (fun out n' k wr => ∃ (P : List (Nat × Nat)) (kk : Nat), kk ≤ n ∧ k = .int .i64 kk ∧ n' = .int .i64 P.length ∧ Runs L (cls L) P kk ∧ wr.ownsRow w.heap.size 5 1 out (recs L P).length (vals .u8 (recs L P)) ∧ out ≠ .slice none 0 0 ∧ Below w.heap.size w wr) (fun _ _ k _ => n - (intOf k).toNat)
  case atStart => exact ⟨[], 0, Nat.zero_le _, rfl, rfl, runs_nil _ _, made_row w _, by simp, bel_made w _ _⟩
  case round =>
    obtain ⟨P, k, hk, rfl, rfl, hruns, hown, hnil, hbel⟩ := hrel
    have HR := Lib.hid hruns
    have HO := Lib.hid hown
    have HB := Lib.hid hbel
    have HNN := Lib.hid hnil
    have hP : P.length ≤ k := hruns.1
    clear hruns hown hbel hnil
    by_cases hlt : k < n
    · go_wp2
      go_loopw [12] (fun j wr2 => ∃ (j' d : Nat), k ≤ j' ∧ j' < n ∧ j = .int .i64 j' ∧ (∀ t, k ≤ t → t ≤ j' → L.getD t 0 = L.getD k 0 + ((t : Int) - (k : Int)) ∧ cls L (L.getD t 0) = cls L (L.getD k 0)) ∧ wr.drewN d = wr2) (fun j _ => n - (intOf j).toNat)
      case atStart =>
        refine ⟨k, 0, Nat.le_refl _, hlt, rfl, fun t h1 h2 => ?_, rfl⟩
        have ht : t = k := by omega
        rw [ht]
        exact ⟨by omega, rfl⟩
      case round =>
        obtain ⟨j, d, hkj, hjn, rfl, hrun, rfl⟩ := hrel
        have HRN := Lib.hid hrun
        clear hrun
        have w1 : IntKind.i64.wrap ((j : Int) + 1) = (j : Int) + 1 := IntWalk.i64_in _ (by omega)
        by_cases hj1 : j + 1 < n
        · have hc0 := HA.out _ HB.out j hjn
          have hc1 := HA.out _ HB.out (j + 1) hj1
          have hck := HA.out _ HB.out k hlt
          have hb0 := HL.out j hjn
          have hb1 := HL.out (j + 1) hj1
          have hbk := HL.out k hlt
          have l1 := fun N => HLK.out (wr.drewN N) (below_draws HB.out N) (L.getD (j + 1) 0) (by omega) (by omega)
          have lk := fun N => HLK.out (wr.drewN N) (below_draws HB.out N) (L.getD k 0) (by omega) (by omega)
          obtain ⟨cy, hcy⟩ : ∃ x, x = cls L (L.getD (j + 1) 0) := ⟨_, rfl⟩
          obtain ⟨cz, hcz⟩ : ∃ x, x = cls L (L.getD k 0) := ⟨_, rfl⟩
          rw [← hcy] at l1
          rw [← hcz] at lk
          obtain ⟨x, hx⟩ : ∃ x, x = L.getD j 0 := ⟨_, rfl⟩
          obtain ⟨y, hy⟩ : ∃ y, y = L.getD (j + 1) 0 := ⟨_, rfl⟩
          obtain ⟨z, hz⟩ : ∃ y, y = L.getD k 0 := ⟨_, rfl⟩
          rw [← hx] at hc0 hb0
          rw [← hy] at hc1 hb1 l1
          rw [← hz] at hck hbk lk
          have HX := Lib.hid hx
          have HY := Lib.hid hy
          have HCY := Lib.hid hcy
          have HCZ := Lib.hid hcz
          clear hx hy hz hcy hcz
          have q1 : (j : Int) + 1 < (n : Int) := by omega
          have q0 : 0 ≤ (j : Int) + 1 := by omega
          have w2 : IntKind.i64.wrap (x + 1) = x + 1 := IntWalk.i64_in _ (by omega)
          by_cases hyx : y = x + 1
          · by_cases hcc : cy = cz
            · have b1 : (y == x + 1) = true := by simpa using hyx
              have b2 : (cy == cz) = true := by simpa using hcc
              have HYX := Lib.hid hyx
              have HCC := Lib.hid hcc
              clear hyx hcc
              go_wp2
              go_quiet (fail)
              go_wp2
              go_roundw
              case rel =>
                refine ⟨j + 1, _, by omega, by omega, by go_num, (fun t h1 h2 => ?_), rfl⟩
                by_cases htj : t = j + 1
                · have h3 := HRN.out j hkj (Nat.le_refl _)
                  rw [htj]
                  refine ⟨?_, ?_⟩
                  · rw [← HY.out, HYX.out, HX.out, h3.1]
                    omega
                  · rw [← HCY.out, ← HCZ.out]
                    exact HCC.out
                · exact HRN.out t h1 (by omega)
              case measure => simp [intOf]; omega
            · have b1 : (y == x + 1) = true := by simpa using hyx
              have b2 : (cy == cz) = false := by simpa using hcc
              clear hyx hcc
              go_wp2
              go_quiet (fail)
              go_wp2
              clear l1 lk hc0 hc1 hck
              obtain ⟨W, hW⟩ : ∃ W, W = (wr.drewN d).drewN nq := ⟨_, rfl⟩
              have hdW : Below wr.heap.size wr W := by rw [hW]; exact below_draws (below_draws (Below.refl _ _) d) nq
              have hbW : Below w.heap.size w W := HB.out.trans (hdW.mono HB.out.size)
              have hoW := own_keep HO.out hdW
              have ck := HA.out W hbW k hlt
              have cj := HA.out W hbW j hjn
              have bk := HL.out k hlt
              have bj := HL.out j hjn
              have hkW := HLK.out W.drew (Below.drew hbW) (L.getD k 0) (by omega) (by omega)
              have hcb := cls_bd L (L.getD k 0)
              obtain ⟨cx, hcx⟩ : ∃ cx, cx = cls L (L.getD k 0) := ⟨_, rfl⟩
              rw [← hcx] at hkW hcb
              obtain ⟨xk, hxk⟩ : ∃ xk, xk = L.getD k 0 := ⟨_, rfl⟩
              obtain ⟨xj, hxj⟩ : ∃ xj, xj = L.getD j 0 := ⟨_, rfl⟩
              rw [← hxk] at ck bk hkW
              rw [← hxj] at cj bj
              rw [← hW]
              have HWd := Lib.hid (words_any W.heap.size 0 3 [xk, xj, cx] (W.drew.alloc (.cells #[.int .i64 xk, .int .i64 xj, .int .i64 cx] 3)) (by simp) (CovS.ints_at W.drew [xk, xj, cx] _ rfl) (by simp; omega) (by simp))
              have HXK := Lib.hid hxk
              have HXJ := Lib.hid hxj
              have HCX := Lib.hid hcx
              have hlk : k < c := by omega
              have hlj : j < c := by omega
              have hpl : (recs L P).length ≤ 6000 := by rw [recs_len]; omega
              have HOW := Lib.hid hoW
              have HBW := Lib.hid hbW
              clear hW hdW hbW hoW hxk hxj hcx
              go_region_law (first | (go_simp; go_at_call 11; refine HWd.out.mono ?_; intro e w1 hm; obtain ⟨g1, cap1, rfl, hA1, hcap1, hg1, hg1', hb1⟩ := made_open hm; have HR1 := Lib.hid (Rd.of_At (c := cap1) hA1); have HO1 := Lib.hid (own_keep (HOW.out.drew.alloc (.cells #[.int .i64 xk, .int .i64 xj, .int .i64 cx] 3)) hb1); have HB1 := Lib.hid ((HBW.out.drew.alloc (by exact HBW.out.size) (.cells #[.int .i64 xk, .int .i64 xj, .int .i64 cx] 3)).trans (hb1.mono (by have := HBW.out.size; simp; omega))); clear hm hA1 hb1) | (refine step_app rfl (.tmp 87) (.tmp 103) 26 rfl w.heap.size 5 i0 (.int .u8 0) 1 Tryd.underlying26 hi0 hz0 hz1 hz2 rfl _ (recs L P).length (vals .u8 (recs L P)) (by simp [Act.eval]) HO1.out ⟨g1, 0, none⟩ 6 cap1 (vals .u8 (words [xk, xj, cx])) (by simp [Act.eval]; rfl) HR1.out ?_ ?_ ?_ ?_ ?_; (focus exact vals_one _ _); (focus (unfold maxLen; omega)); (focus omega); (focus exact HB1.out.size); intro v6 w6 own6 grow6 nil6 at6))
              all_goals
                have hn6 : v6 ≠ .slice none 0 0 := fun h => HNN.out (nil6.1 h).1
                have hb6 : Below w.heap.size w w6 := HB1.out.grown grow6 HB1.out.size (fun g hg => own_ge HO1.out hg)
                have hr6 : w6.ownsRow w.heap.size 5 1 v6 (recs L (P ++ [(k, j)])).length (vals .u8 (recs L (P ++ [(k, j)]))) := by
                  rw [recs_snoc, List.length_append, vals_app, ← HXK.out, ← HXJ.out]
                  rw [HXK.out, ← HCX.out, ← HXK.out]
                  exact own6
                have HE := Lib.hid (And.intro hr6 (And.intro hn6 hb6))
                clear hn6 hb6 hr6 own6 grow6 nil6 at6
                go_wp2
                go_roundw
                case rel =>
                  refine ⟨P ++ [(k, j)], j + 1, by omega, by go_num, by rw [List.length_append]; go_num, runs_snoc HR.out hkj (fun t h1 h2 => HRN.out t h1 h2), HE.out.1, HE.out.2.1, HE.out.2.2⟩
                case measure => simp [intOf]; omega
          · have b1 : (y == x + 1) = false := by simpa using hyx
            clear hyx
            go_wp2
            go_quiet (fail)
            go_wp2
            clear l1 lk hc0 hc1 hck
            obtain ⟨W, hW⟩ : ∃ W, W = (wr.drewN d).drewN nq := ⟨_, rfl⟩
            have hdW : Below wr.heap.size wr W := by rw [hW]; exact below_draws (below_draws (Below.refl _ _) d) nq
            have hbW : Below w.heap.size w W := HB.out.trans (hdW.mono HB.out.size)
            have hoW := own_keep HO.out hdW
            have ck := HA.out W hbW k hlt
            have cj := HA.out W hbW j hjn
            have bk := HL.out k hlt
            have bj := HL.out j hjn
            have hkW := HLK.out W.drew (Below.drew hbW) (L.getD k 0) (by omega) (by omega)
            have hcb := cls_bd L (L.getD k 0)
            obtain ⟨cx, hcx⟩ : ∃ cx, cx = cls L (L.getD k 0) := ⟨_, rfl⟩
            rw [← hcx] at hkW hcb
            obtain ⟨xk, hxk⟩ : ∃ xk, xk = L.getD k 0 := ⟨_, rfl⟩
            obtain ⟨xj, hxj⟩ : ∃ xj, xj = L.getD j 0 := ⟨_, rfl⟩
            rw [← hxk] at ck bk hkW
            rw [← hxj] at cj bj
            rw [← hW]
            have HWd := Lib.hid (words_any W.heap.size 0 3 [xk, xj, cx] (W.drew.alloc (.cells #[.int .i64 xk, .int .i64 xj, .int .i64 cx] 3)) (by simp) (CovS.ints_at W.drew [xk, xj, cx] _ rfl) (by simp; omega) (by simp))
            have HXK := Lib.hid hxk
            have HXJ := Lib.hid hxj
            have HCX := Lib.hid hcx
            have hlk : k < c := by omega
            have hlj : j < c := by omega
            have hpl : (recs L P).length ≤ 6000 := by rw [recs_len]; omega
            have HOW := Lib.hid hoW
            have HBW := Lib.hid hbW
            clear hW hdW hbW hoW hxk hxj hcx
            go_region_law (first | (go_simp; go_at_call 11; refine HWd.out.mono ?_; intro e w1 hm; obtain ⟨g1, cap1, rfl, hA1, hcap1, hg1, hg1', hb1⟩ := made_open hm; have HR1 := Lib.hid (Rd.of_At (c := cap1) hA1); have HO1 := Lib.hid (own_keep (HOW.out.drew.alloc (.cells #[.int .i64 xk, .int .i64 xj, .int .i64 cx] 3)) hb1); have HB1 := Lib.hid ((HBW.out.drew.alloc (by exact HBW.out.size) (.cells #[.int .i64 xk, .int .i64 xj, .int .i64 cx] 3)).trans (hb1.mono (by have := HBW.out.size; simp; omega))); clear hm hA1 hb1) | (refine step_app rfl (.tmp 87) (.tmp 103) 26 rfl w.heap.size 5 i0 (.int .u8 0) 1 Tryd.underlying26 hi0 hz0 hz1 hz2 rfl _ (recs L P).length (vals .u8 (recs L P)) (by simp [Act.eval]) HO1.out ⟨g1, 0, none⟩ 6 cap1 (vals .u8 (words [xk, xj, cx])) (by simp [Act.eval]; rfl) HR1.out ?_ ?_ ?_ ?_ ?_; (focus exact vals_one _ _); (focus (unfold maxLen; omega)); (focus omega); (focus exact HB1.out.size); intro v6 w6 own6 grow6 nil6 at6))
            all_goals
              have hn6 : v6 ≠ .slice none 0 0 := fun h => HNN.out (nil6.1 h).1
              have hb6 : Below w.heap.size w w6 := HB1.out.grown grow6 HB1.out.size (fun g hg => own_ge HO1.out hg)
              have hr6 : w6.ownsRow w.heap.size 5 1 v6 (recs L (P ++ [(k, j)])).length (vals .u8 (recs L (P ++ [(k, j)]))) := by
                rw [recs_snoc, List.length_append, vals_app, ← HXK.out, ← HXJ.out]
                rw [HXK.out, ← HCX.out, ← HXK.out]
                exact own6
              have HE := Lib.hid (And.intro hr6 (And.intro hn6 hb6))
              clear hn6 hb6 hr6 own6 grow6 nil6 at6
              go_wp2
              go_roundw
              case rel =>
                refine ⟨P ++ [(k, j)], j + 1, by omega, by go_num, by rw [List.length_append]; go_num, runs_snoc HR.out hkj (fun t h1 h2 => HRN.out t h1 h2), HE.out.1, HE.out.2.1, HE.out.2.2⟩
              case measure => simp [intOf]; omega
        · have q1 : decide ((j : Int) + 1 < (n : Int)) = false := by simp; omega
          go_wp2
          go_quiet (fail)
          go_wp2
          obtain ⟨W, hW⟩ : ∃ W, W = (wr.drewN d).drewN nq := ⟨_, rfl⟩
          have hdW : Below wr.heap.size wr W := by rw [hW]; exact below_draws (below_draws (Below.refl _ _) d) nq
          have hbW : Below w.heap.size w W := HB.out.trans (hdW.mono HB.out.size)
          have hoW := own_keep HO.out hdW
          have ck := HA.out W hbW k hlt
          have cj := HA.out W hbW j hjn
          have bk := HL.out k hlt
          have bj := HL.out j hjn
          have hkW := HLK.out W.drew (Below.drew hbW) (L.getD k 0) (by omega) (by omega)
          have hcb := cls_bd L (L.getD k 0)
          obtain ⟨cx, hcx⟩ : ∃ cx, cx = cls L (L.getD k 0) := ⟨_, rfl⟩
          rw [← hcx] at hkW hcb
          obtain ⟨xk, hxk⟩ : ∃ xk, xk = L.getD k 0 := ⟨_, rfl⟩
          obtain ⟨xj, hxj⟩ : ∃ xj, xj = L.getD j 0 := ⟨_, rfl⟩
          rw [← hxk] at ck bk hkW
          rw [← hxj] at cj bj
          rw [← hW]
          have HWd := Lib.hid (words_any W.heap.size 0 3 [xk, xj, cx] (W.drew.alloc (.cells #[.int .i64 xk, .int .i64 xj, .int .i64 cx] 3)) (by simp) (CovS.ints_at W.drew [xk, xj, cx] _ rfl) (by simp; omega) (by simp))
          have HXK := Lib.hid hxk
          have HXJ := Lib.hid hxj
          have HCX := Lib.hid hcx
          have hlk : k < c := by omega
          have hlj : j < c := by omega
          have hpl : (recs L P).length ≤ 6000 := by rw [recs_len]; omega
          have HOW := Lib.hid hoW
          have HBW := Lib.hid hbW
          clear hW hdW hbW hoW hxk hxj hcx
          go_region_law (first | (go_simp; go_at_call 11; refine HWd.out.mono ?_; intro e w1 hm; obtain ⟨g1, cap1, rfl, hA1, hcap1, hg1, hg1', hb1⟩ := made_open hm; have HR1 := Lib.hid (Rd.of_At (c := cap1) hA1); have HO1 := Lib.hid (own_keep (HOW.out.drew.alloc (.cells #[.int .i64 xk, .int .i64 xj, .int .i64 cx] 3)) hb1); have HB1 := Lib.hid ((HBW.out.drew.alloc (by exact HBW.out.size) (.cells #[.int .i64 xk, .int .i64 xj, .int .i64 cx] 3)).trans (hb1.mono (by have := HBW.out.size; simp; omega))); clear hm hA1 hb1) | (refine step_app rfl (.tmp 87) (.tmp 103) 26 rfl w.heap.size 5 i0 (.int .u8 0) 1 Tryd.underlying26 hi0 hz0 hz1 hz2 rfl _ (recs L P).length (vals .u8 (recs L P)) (by simp [Act.eval]) HO1.out ⟨g1, 0, none⟩ 6 cap1 (vals .u8 (words [xk, xj, cx])) (by simp [Act.eval]; rfl) HR1.out ?_ ?_ ?_ ?_ ?_; (focus exact vals_one _ _); (focus (unfold maxLen; omega)); (focus omega); (focus exact HB1.out.size); intro v6 w6 own6 grow6 nil6 at6))
          all_goals
            have hn6 : v6 ≠ .slice none 0 0 := fun h => HNN.out (nil6.1 h).1
            have hb6 : Below w.heap.size w w6 := HB1.out.grown grow6 HB1.out.size (fun g hg => own_ge HO1.out hg)
            have hr6 : w6.ownsRow w.heap.size 5 1 v6 (recs L (P ++ [(k, j)])).length (vals .u8 (recs L (P ++ [(k, j)]))) := by
              rw [recs_snoc, List.length_append, vals_app, ← HXK.out, ← HXJ.out]
              rw [HXK.out, ← HCX.out, ← HXK.out]
              exact own6
            have HE := Lib.hid (And.intro hr6 (And.intro hn6 hb6))
            clear hn6 hb6 hr6 own6 grow6 nil6 at6
            go_wp2
            go_roundw
            case rel =>
              refine ⟨P ++ [(k, j)], j + 1, by omega, by go_num, by rw [List.length_append]; go_num, runs_snoc HR.out hkj (fun t h1 h2 => HRN.out t h1 h2), HE.out.1, HE.out.2.1, HE.out.2.2⟩
            case measure => simp [intOf]; omega
    · obtain rfl : k = n := by omega
      obtain ⟨g5, cap5, rfl, hA5, hcap5, hg5, hg5'⟩ := own_open HO.out HNN.out
      have hrl := recs_len L P
      rw [hrl] at hcap5
      have HA5 := Lib.hid hA5
      clear hA5
      go_wp2_with fail
      refine (words_any wr.heap.size 0 2 [2, (P.length : Int)] (wr.alloc (.cells #[.int .i64 2, .int .i64 (P.length : Int)] 3)) (by simp) (CovS.ints_at wr [2, (P.length : Int)] _ rfl) (by simp; omega) (by simp)).mono ?_
      intro e w1 hm
      have hM := hm
      obtain ⟨g1, cap1, rfl, hA1, hcap1, hg1, hg1', hb1⟩ := made_open hm
      have HB1 := Lib.hid ((HB.out.alloc HB.out.size (.cells #[.int .i64 2, .int .i64 (P.length : Int)] 3)).trans (hb1.mono (by have := HB.out.size; simp; omega)))
      obtain ⟨v1, hv1, ho1, _, _⟩ := hM
      injection hv1 with hv1
      subst hv1
      have HO1 := Lib.hid (own_base (B' := w.heap.size) ho1 (by have := HB.out.size; simp; omega))
      have hr2 := Rd.of_At (c := cap5) ((HA5.out.keep (bel_made wr #[.int .i64 2, .int .i64 (P.length : Int)] 3)).keep hb1)
      rw [vals_len, hrl] at hr2
      have HR2 := Lib.hid hr2
      clear hm hb1 ho1 hA1 hr2
      go_wp2_with (at_builtin; go_loud (refine app_any rfl _ _ 26 rfl w.heap.size 5 i0 (.int .u8 0) 1 Tryd.underlying26 hi0 hz0 hz1 hz2 rfl _ _ _ rfl HO1.out (some ⟨g5, 0, none⟩) (6 * P.length) cap5 (vals .u8 (recs L P)) rfl HR2.out (vals_one _ _) ?d3 ?d4 HB1.out.size ?_))
      case d3 => unfold maxLen; rw [show (words [2, (P.length : Int)]).length = 4 from rfl]; omega
      case d4 => rw [show (words [2, (P.length : Int)]).length = 4 from rfl]; omega
      intro v3 w3 hown3 hgrow3 hnil3
      have hb3 : Below w.heap.size w w3 := HB1.out.grown hgrow3 HB1.out.size (fun g hg => own_ge HO1.out hg)
      have hn3 : v3 ≠ .slice none 0 0 := fun h => by first | exact hnil3 h | (have h' := (hnil3.1 h).1; cases h')
      have ho3 : w3.ownsRow w.heap.size 5 1 v3 (words [2, (P.length : Int)] ++ recs L P).length (vals .u8 (words [2, (P.length : Int)] ++ recs L P)) := by
        rw [List.length_append, vals_app, hrl]
        exact hown3
      have HE := Lib.hid (And.intro ho3 (And.intro hn3 hb3))
      clear hb3 hn3 ho3 hown3 hgrow3 hnil3
      go_wp2
      go_ret
      refine ⟨_, _, rfl, ?_, HE.out.1, HE.out.2.1, HE.out.2.2⟩
      have hr := HR.out
      rw [HN.out] at hr
      simp only [Clb, if_true]
      exact ⟨P, hr, rfl⟩

theorem classes_bytes (g n c M : Nat) (L : List Int) (ranges : Bool) (w : World) (hn : n = L.length) (h0 : 0 < n) (hsz : n ≤ 1000) (hL : ∀ x ∈ L, 0 ≤ x ∧ x ≤ 65535) (hasc : Asc L) (hA : At w g 0 (vals .i64 L)) (hg : g < w.heap.size) (hc : IsCls w M L) (hnc : n ≤ c) (hsp : ranges = false → span L ≤ 2000) :
    Calls Tryd.prog 6 #[.slice (some ⟨g, 0, none⟩) n c, .map (some M), .bool ranges] w (Table L ranges w) := by
  cases ranges
  · exact plain_any g n c M L w hn h0 hsz hL hasc hA hg hc (hsp rfl)
  · exact ranges_any g n c M L w hn hsz hL hA hg hc hnc
end Go.Proofs.YtbpcmdgfgibbjaaDoor.ClsS
