/- Contract of the reference's coverage table: glyphs one by one, or in ranges. -/
import Derived.Test.YtbpcmdgfgibbjaaDoorCovK
namespace Go.Proofs.YtbpcmdgfgibbjaaDoor.CovS
open Go.ChangeShapes Go.WideShapes Go.ChangeAt Go.RowKit
open Lst Mem SpecB SfntB View RunsL CovK
open ListB (Asc step_app intinfo)
open CovZ (own_base)
open CovA (below_draws)

theorem ints_at (w : World) (l : List Int) (o : Array Value) (h : o.toList = vals .i64 l) : At (w.alloc (.cells o 3)) w.heap.size 0 (vals .i64 l) := by
  intro j v hj
  rw [← h, Array.getElem?_toList] at hj
  simp
  exact hj

/-- a table's bytes, in a row of the call's own -/
def Table (L : List Int) (ranges : Bool) (w : World) (e : Ending) (w' : World) : Prop :=
  ∃ v bs, e = .returned v ∧ Cov L ranges bs ∧ w'.ownsRow w.heap.size 5 1 v bs.length (vals .u8 bs) ∧ v ≠ .slice none 0 0 ∧ Below w.heap.size w w'

set_option maxHeartbeats 3200000 in
set_option maxRecDepth 4000 in
theorem plain_any (g n c : Nat) (L : List Int) (w : World) (hn : n = L.length) (hsz : n ≤ 1000) (hL : ∀ x ∈ L, 0 ≤ x ∧ x ≤ 65535) (hA : At w g 0 (vals .i64 L)) (hg : g < w.heap.size) :
    Calls Tryd.prog 8 #[.slice (some ⟨g, 0, none⟩) n c, .bool false] w (Table L false w) := by
  obtain ⟨i0, hi0, hz0, hz1, hz2⟩ := info_parts u8info
  have HN := Lib.hid hn
  have HL := Lib.hid hL
  have HA := Lib.hid hA
  clear hn hL hA
  go_enter Tryd.func8, Tryd.ntmps8
  go_wp2_with fail
  refine (words_any w.heap.size 0 2 [1, (n : Int)] (w.alloc (.cells #[.int .i64 1, .int .i64 (n : Int)] 3)) (by simp) (ints_at w [1, (n : Int)] _ rfl) (by simp; omega) (by simp)).mono ?_
  intro e w1 hm
  have hM := hm
  obtain ⟨g1, cap1, rfl, hA1, hcap1, hg1, hg1', hb1⟩ := made_open hm
  have HB1 := Lib.hid ((bel_made w _ _).trans (hb1.mono (by simp)))
  obtain ⟨v1, hv1, ho1, _, _⟩ := hM
  injection hv1 with hv1
  subst hv1
  have HO1 := Lib.hid ho1
  have hAL := (HA.out.keep (bel_made w #[.int .i64 1, .int .i64 (n : Int)] 3)).keep hb1
  have HW := Lib.hid (words_any g 0 c L w1 (by have := HB1.out.size; omega) hAL (fun x hx => by have := HL.out x hx; omega) (by rw [← HN.out]; omega))
  rw [← HN.out] at HW
  clear hm hb1 ho1 hA1 hAL
  go_wp2_with fail
  refine HW.out.mono ?_
  intro e w2 hm2
  obtain ⟨g2, cap2, rfl, hA2, hcap2, hg2, hg2', hb2⟩ := made_open hm2
  have HO2 := Lib.hid (own_base (B' := w.heap.size) (own_keep HO1.out hb2) (by simp))
  have HB2 := Lib.hid (HB1.out.trans (hb2.mono HB1.out.size))
  have hr2 := Rd.of_At (c := cap2) hA2
  rw [vals_len] at hr2
  have hwl := words_len L
  rw [← HN.out] at hwl
  rw [hwl] at hr2
  have HR2 := Lib.hid hr2
  have hw1 : (words [1, (n : Int)]).length = 4 := rfl
  clear hm2 hb2 hA2 hr2
  go_wp2_with (at_builtin; go_loud (refine app_any rfl _ _ 26 rfl w.heap.size 5 i0 (.int .u8 0) 1 Tryd.underlying26 hi0 hz0 hz1 hz2 rfl _ _ _ rfl HO2.out (some ⟨g2, 0, none⟩) (2 * n) cap2 (vals .u8 (words L)) rfl HR2.out (vals_one _ _) ?d3 ?d4 HB2.out.size ?_))
  case d3 => unfold maxLen; omega
  case d4 => omega
  intro v3 w3 hown3 hgrow3 hnil3
  have hb3 : Below w.heap.size w w3 := HB2.out.grown hgrow3 HB2.out.size (fun g hg => by exact own_ge HO2.out hg)
  have hn3 : v3 ≠ .slice none 0 0 := fun h => by first | exact hnil3 h | (have h' := (hnil3.1 h).1; cases h')
  have ho3 : w3.ownsRow w.heap.size 5 1 v3 (words [1, (n : Int)] ++ words L).length (vals .u8 (words [1, (n : Int)] ++ words L)) := by
    rw [List.length_append, vals_app, hwl]
    exact hown3
  have HE := Lib.hid (And.intro ho3 (And.intro hn3 hb3))
  clear hb3 hn3 ho3 hown3 hgrow3 hnil3
  go_wp2
  go_ret
  exact ⟨_, _, rfl, by simp [Cov, HN.out], HE.out.1, HE.out.2.1, HE.out.2.2⟩

/-- the records of runs, as bytes -/
def recs (L : List Int) (P : List (Nat × Nat)) : List Int := words (trip L (fun a => (a : Int)) P)
theorem recs_len (L : List Int) (P : List (Nat × Nat)) : (recs L P).length = 6 * P.length := by rw [recs, words_len, trip_len]; omega
theorem recs_snoc (L : List Int) (P : List (Nat × Nat)) (p : Nat × Nat) : recs L (P ++ [p]) = recs L P ++ words [L.getD p.1 0, L.getD p.2 0, (p.1 : Int)] := by simp [recs, trip_snoc, words]

set_option maxHeartbeats 3200000 in
set_option maxRecDepth 4000 in
theorem ranges_any (g n c : Nat) (L : List Int) (w : World) (hn : n = L.length) (hsz : n ≤ 1000) (hL : ∀ x ∈ L, 0 ≤ x ∧ x ≤ 65535) (hA : At w g 0 (vals .i64 L)) (hg : g < w.heap.size) (hnc : n ≤ c) :
    Calls Tryd.prog 8 #[.slice (some ⟨g, 0, none⟩) n c, .bool true] w (Table L true w) := by
  obtain ⟨i0, hi0, hz0, hz1, hz2⟩ := info_parts u8info
  have HN := Lib.hid hn
  have HL := Lib.hid (fun j (hj : j < n) => (show 0 ≤ L.getD j 0 ∧ L.getD j 0 ≤ 65535 from by
    rw [List.getD_eq_getElem?_getD, List.getElem?_eq_getElem (by rw [← hn]; exact hj)]
    exact hL _ (List.getElem_mem _)))
  have HA := Lib.hid (fun (W : World) (hb : Below w.heap.size w W) j (hj : j < n) => (show W.cell? ⟨g, j, none⟩ = some (.int .i64 (L.getD j 0)) from by
    have h := (hA.below hb hg).get (j := j) (by rw [← hn]; exact hj)
    rwa [Nat.zero_add] at h))
  clear hn hL hA
  go_enter Tryd.func8, Tryd.ntmps8
  go_wp2
  go_loopw [5, 6, 7] (fun out n' k wr => ∃ (P : List (Nat × Nat)) (kk : Nat), kk ≤ n ∧ k = .int .i64 kk ∧ n' = .int .i64 P.length ∧ Runs L (fun _ => 0) P kk ∧ wr.ownsRow w.heap.size 5 1 out (recs L P).length (vals .u8 (recs L P)) ∧ out ≠ .slice none 0 0 ∧ Below w.heap.size w wr) (fun _ _ k _ => n - (intOf k).toNat)
  case atStart => exact ⟨[], 0, Nat.zero_le _, rfl, rfl, runs_nil _ _, made_row w _, by simp, bel_made w _ _⟩
  case round =>
    obtain ⟨P, k, hk, rfl, rfl, hruns, hown, hnil, hbel⟩ := hrel
    have HR := Lib.hid hruns
    have HO := Lib.hid hown
    have HB := Lib.hid hbel
    have HNN := Lib.hid hnil
    have hP : P.length ≤ k := hruns.1
    clear hruns hown hbel hnil
    by_cases hlt : k < n
    · go_wp2
      go_loopw [8] (fun j wr2 => ∃ (j' d : Nat), k ≤ j' ∧ j' < n ∧ j = .int .i64 j' ∧ (∀ t, k ≤ t → t ≤ j' → L.getD t 0 = L.getD k 0 + ((t : Int) - (k : Int))) ∧ wr.drewN d = wr2) (fun j _ => n - (intOf j).toNat)
      case atStart =>
        refine ⟨k, 0, Nat.le_refl _, hlt, rfl, fun t h1 h2 => ?_, rfl⟩
        have ht : t = k := by omega
        rw [ht]
        omega
      case round =>
        obtain ⟨j, d, hkj, hjn, rfl, hrun, rfl⟩ := hrel
        have HRN := Lib.hid hrun
        clear hrun
        by_cases hj1 : j + 1 < n
        · have hc0 := HA.out _ HB.out j hjn
          have hc1 := HA.out _ HB.out (j + 1) hj1
          have hb0 := HL.out j hjn
          obtain ⟨x, hx⟩ : ∃ x, x = L.getD j 0 := ⟨_, rfl⟩
          obtain ⟨y, hy⟩ : ∃ y, y = L.getD (j + 1) 0 := ⟨_, rfl⟩
          rw [← hx] at hc0 hb0
          rw [← hy] at hc1
          have HX := Lib.hid hx
          have HY := Lib.hid hy
          clear hx hy
          have q1 : (j : Int) + 1 < (n : Int) := by omega
          have w1 : IntKind.i64.wrap ((j : Int) + 1) = (j : Int) + 1 := IntWalk.i64_in _ (by omega)
          have w2 : IntKind.i64.wrap (x + 1) = x + 1 := IntWalk.i64_in _ (by omega)
          go_wp2
          go_quiet (fail)
          go_wp2
          · have he : y = x + 1 := by
              have h : (y == x + 1) = true := by assumption
              simpa using h
            go_roundw
            case rel =>
              refine ⟨j + 1, _, by omega, by omega, by go_num, (fun t h1 h2 => ?_), rfl⟩
              by_cases htj : t = j + 1
              · have h3 := HRN.out j hkj (Nat.le_refl _)
                rw [htj, ← HY.out, he, HX.out, h3]
                omega
              · exact HRN.out t h1 (by omega)
            case measure => simp [intOf]; omega
          · skip
            obtain ⟨W, hW⟩ : ∃ W, W = (wr.drewN d).drewN nq := ⟨_, rfl⟩
            have hdW : Below wr.heap.size wr W := by rw [hW]; exact below_draws (below_draws (Below.refl _ _) d) nq
            have hbW : Below w.heap.size w W := HB.out.trans (hdW.mono HB.out.size)
            have hoW := own_keep HO.out hdW
            have ck := HA.out W hbW k hlt
            have cj := HA.out W hbW j hjn
            have bk := HL.out k hlt
            have bj := HL.out j hjn
            obtain ⟨xk, hxk⟩ : ∃ xk, xk = L.getD k 0 := ⟨_, rfl⟩
            obtain ⟨xj, hxj⟩ : ∃ xj, xj = L.getD j 0 := ⟨_, rfl⟩
            rw [← hxk] at ck bk
            rw [← hxj] at cj bj
            rw [← hW]
            have HWd := Lib.hid (words_any W.heap.size 0 3 [xk, xj, (k : Int)] (W.drew.alloc (.cells #[.int .i64 xk, .int .i64 xj, .int .i64 (k : Int)] 3)) (by simp) (ints_at W.drew [xk, xj, (k : Int)] _ rfl) (by simp; omega) (by simp))
            have HXK := Lib.hid hxk
            have HXJ := Lib.hid hxj
            have hlk : k < c := by omega
            have hlj : j < c := by omega
            have hpl : (recs L P).length ≤ 6000 := by rw [recs_len]; omega
            have HOW := Lib.hid hoW
            have HBW := Lib.hid hbW
            clear hW hdW hbW hoW hxk hxj
            go_region_law (first | (go_simp; go_at_call 11; refine HWd.out.mono ?_; intro e w1 hm; obtain ⟨g1, cap1, rfl, hA1, hcap1, hg1, hg1', hb1⟩ := made_open hm; have HR1 := Lib.hid (Rd.of_At (c := cap1) hA1); have HO1 := Lib.hid (own_keep (HOW.out.drew.alloc (.cells #[.int .i64 xk, .int .i64 xj, .int .i64 (k : Int)] 3)) hb1); have HB1 := Lib.hid ((HBW.out.drew.alloc (by exact HBW.out.size) (.cells #[.int .i64 xk, .int .i64 xj, .int .i64 (k : Int)] 3)).trans (hb1.mono (by have := HBW.out.size; simp; omega))); clear hm hA1 hb1) | (refine step_app rfl (.tmp 44) (.tmp 55) 26 rfl w.heap.size 5 i0 (.int .u8 0) 1 Tryd.underlying26 hi0 hz0 hz1 hz2 rfl _ (recs L P).length (vals .u8 (recs L P)) (by simp [Act.eval]) HO1.out ⟨g1, 0, none⟩ 6 cap1 (vals .u8 (words [xk, xj, (k : Int)])) (by simp [Act.eval]; rfl) HR1.out ?_ ?_ ?_ ?_ ?_; (focus exact vals_one _ _); (focus (unfold maxLen; omega)); (focus omega); (focus exact HB1.out.size); intro v6 w6 own6 grow6 nil6 at6))
            all_goals
              have hn6 : v6 ≠ .slice none 0 0 := fun h => HNN.out (nil6.1 h).1
              have hb6 : Below w.heap.size w w6 := HB1.out.grown grow6 HB1.out.size (fun g hg => own_ge HO1.out hg)
              have hr6 : w6.ownsRow w.heap.size 5 1 v6 (recs L (P ++ [(k, j)])).length (vals .u8 (recs L (P ++ [(k, j)]))) := by
                rw [recs_snoc, List.length_append, vals_app, ← HXK.out, ← HXJ.out]
                exact own6
              have HE := Lib.hid (And.intro hr6 (And.intro hn6 hb6))
              clear hn6 hb6 hr6 own6 grow6 nil6 at6
              go_wp2
              go_roundw
              case rel =>
                refine ⟨P ++ [(k, j)], j + 1, by omega, by go_num, by rw [List.length_append]; go_num, runs_snoc HR.out hkj (fun t h1 h2 => ⟨HRN.out t h1 h2, rfl⟩), HE.out.1, HE.out.2.1, HE.out.2.2⟩
              case measure => simp [intOf]; omega
        · have q1 : decide ((j : Int) + 1 < (n : Int)) = false := by simp; omega
          have w1 : IntKind.i64.wrap ((j : Int) + 1) = (j : Int) + 1 := IntWalk.i64_in _ (by omega)
          go_wp2
          go_quiet (fail)
          go_wp2
          obtain ⟨W, hW⟩ : ∃ W, W = (wr.drewN d).drewN nq := ⟨_, rfl⟩
          have hdW : Below wr.heap.size wr W := by rw [hW]; exact below_draws (below_draws (Below.refl _ _) d) nq
          have hbW : Below w.heap.size w W := HB.out.trans (hdW.mono HB.out.size)
          have hoW := own_keep HO.out hdW
          have ck := HA.out W hbW k hlt
          have cj := HA.out W hbW j hjn
          have bk := HL.out k hlt
          have bj := HL.out j hjn
          obtain ⟨xk, hxk⟩ : ∃ xk, xk = L.getD k 0 := ⟨_, rfl⟩
          obtain ⟨xj, hxj⟩ : ∃ xj, xj = L.getD j 0 := ⟨_, rfl⟩
          rw [← hxk] at ck bk
          rw [← hxj] at cj bj
          rw [← hW]
          have HWd := Lib.hid (words_any W.heap.size 0 3 [xk, xj, (k : Int)] (W.drew.alloc (.cells #[.int .i64 xk, .int .i64 xj, .int .i64 (k : Int)] 3)) (by simp) (ints_at W.drew [xk, xj, (k : Int)] _ rfl) (by simp; omega) (by simp))
          have HXK := Lib.hid hxk
          have HXJ := Lib.hid hxj
          have hlk : k < c := by omega
          have hlj : j < c := by omega
          have hpl : (recs L P).length ≤ 6000 := by rw [recs_len]; omega
          have HOW := Lib.hid hoW
          have HBW := Lib.hid hbW
          clear hW hdW hbW hoW hxk hxj
          go_region_law (first | (go_simp; go_at_call 11; refine HWd.out.mono ?_; intro e w1 hm; obtain ⟨g1, cap1, rfl, hA1, hcap1, hg1, hg1', hb1⟩ := made_open hm; have HR1 := Lib.hid (Rd.of_At (c := cap1) hA1); have HO1 := Lib.hid (own_keep (HOW.out.drew.alloc (.cells #[.int .i64 xk, .int .i64 xj, .int .i64 (k : Int)] 3)) hb1); have HB1 := Lib.hid ((HBW.out.drew.alloc (by exact HBW.out.size) (.cells #[.int .i64 xk, .int .i64 xj, .int .i64 (k : Int)] 3)).trans (hb1.mono (by have := HBW.out.size; simp; omega))); clear hm hA1 hb1) | (refine step_app rfl (.tmp 44) (.tmp 55) 26 rfl w.heap.size 5 i0 (.int .u8 0) 1 Tryd.underlying26 hi0 hz0 hz1 hz2 rfl _ (recs L P).length (vals .u8 (recs L P)) (by simp [Act.eval]) HO1.out ⟨g1, 0, none⟩ 6 cap1 (vals .u8 (words [xk, xj, (k : Int)])) (by simp [Act.eval]; rfl) HR1.out ?_ ?_ ?_ ?_ ?_; (focus exact vals_one _ _); (focus (unfold maxLen; omega)); (focus omega); (focus exact HB1.out.size); intro v6 w6 own6 grow6 nil6 at6))
          all_goals
            have hn6 : v6 ≠ .slice none 0 0 := fun h => HNN.out (nil6.1 h).1
            have hb6 : Below w.heap.size w w6 := HB1.out.grown grow6 HB1.out.size (fun g hg => own_ge HO1.out hg)
            have hr6 : w6.ownsRow w.heap.size 5 1 v6 (recs L (P ++ [(k, j)])).length (vals .u8 (recs L (P ++ [(k, j)]))) := by
              rw [recs_snoc, List.length_append, vals_app, ← HXK.out, ← HXJ.out]
              exact own6
            have HE := Lib.hid (And.intro hr6 (And.intro hn6 hb6))
            clear hn6 hb6 hr6 own6 grow6 nil6 at6
            go_wp2
            go_roundw
            case rel =>
              refine ⟨P ++ [(k, j)], j + 1, by omega, by go_num, by rw [List.length_append]; go_num, runs_snoc HR.out hkj (fun t h1 h2 => ⟨HRN.out t h1 h2, rfl⟩), HE.out.1, HE.out.2.1, HE.out.2.2⟩
            case measure => simp [intOf]; omega
    · obtain rfl : k = n := by omega
      obtain ⟨g5, cap5, rfl, hA5, hcap5, hg5, hg5'⟩ := own_open HO.out HNN.out
      have hrl := recs_len L P
      rw [hrl] at hcap5
      have HA5 := Lib.hid hA5
      clear hA5
      go_wp2_with fail
      refine (words_any wr.heap.size 0 2 [2, (P.length : Int)] (wr.alloc (.cells #[.int .i64 2, .int .i64 (P.length : Int)] 3)) (by simp) (ints_at wr [2, (P.length : Int)] _ rfl) (by simp; omega) (by simp)).mono ?_
      intro e w1 hm
      have hM := hm
      obtain ⟨g1, cap1, rfl, hA1, hcap1, hg1, hg1', hb1⟩ := made_open hm
      have HB1 := Lib.hid ((HB.out.alloc HB.out.size (.cells #[.int .i64 2, .int .i64 (P.length : Int)] 3)).trans (hb1.mono (by have := HB.out.size; simp; omega)))
      obtain ⟨v1, hv1, ho1, _, _⟩ := hM
      injection hv1 with hv1
      subst hv1
      have HO1 := Lib.hid (own_base (B' := w.heap.size) ho1 (by have := HB.out.size; simp; omega))
      have hr2 := Rd.of_At (c := cap5) ((HA5.out.keep (bel_made wr #[.int .i64 2, .int .i64 (P.length : Int)] 3)).keep hb1)
      rw [vals_len, hrl] at hr2
      have HR2 := Lib.hid hr2
      clear hm hb1 ho1 hA1 hr2
      go_wp2_with (at_builtin; go_loud (refine app_any rfl _ _ 26 rfl w.heap.size 5 i0 (.int .u8 0) 1 Tryd.underlying26 hi0 hz0 hz1 hz2 rfl _ _ _ rfl HO1.out (some ⟨g5, 0, none⟩) (6 * P.length) cap5 (vals .u8 (recs L P)) rfl HR2.out (vals_one _ _) ?d3 ?d4 HB1.out.size ?_))
      case d3 => unfold maxLen; rw [show (words [2, (P.length : Int)]).length = 4 from rfl]; omega
      case d4 => rw [show (words [2, (P.length : Int)]).length = 4 from rfl]; omega
      intro v3 w3 hown3 hgrow3 hnil3
      have hb3 : Below w.heap.size w w3 := HB1.out.grown hgrow3 HB1.out.size (fun g hg => own_ge HO1.out hg)
      have hn3 : v3 ≠ .slice none 0 0 := fun h => by first | exact hnil3 h | (have h' := (hnil3.1 h).1; cases h')
      have ho3 : w3.ownsRow w.heap.size 5 1 v3 (words [2, (P.length : Int)] ++ recs L P).length (vals .u8 (words [2, (P.length : Int)] ++ recs L P)) := by
        rw [List.length_append, vals_app, hrl]
        exact hown3
      have HE := Lib.hid (And.intro ho3 (And.intro hn3 hb3))
      clear hb3 hn3 ho3 hown3 hgrow3 hnil3
      go_wp2
      go_ret
      refine ⟨_, _, rfl, ?_, HE.out.1, HE.out.2.1, HE.out.2.2⟩
      have hr := HR.out
      rw [HN.out] at hr
      simp only [Cov, if_true]
      exact ⟨P, hr, rfl⟩

theorem coverage_any (g n c : Nat) (L : List Int) (ranges : Bool) (w : World) (hn : n = L.length) (hsz : n ≤ 1000) (hL : ∀ x ∈ L, 0 ≤ x ∧ x ≤ 65535) (hA : At w g 0 (vals .i64 L)) (hg : g < w.heap.size) (hnc : n ≤ c) :
    Calls Tryd.prog 8 #[.slice (some ⟨g, 0, none⟩) n c, .bool ranges] w (Table L ranges w) := by
  cases ranges
  · exact plain_any g n c L w hn hsz hL hA hg
  · exact ranges_any g n c L w hn hsz hL hA hg hnc
end Go.Proofs.YtbpcmdgfgibbjaaDoor.CovS
