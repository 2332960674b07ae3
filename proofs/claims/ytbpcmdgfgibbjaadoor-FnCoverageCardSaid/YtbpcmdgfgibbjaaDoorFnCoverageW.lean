/- The walk of FnCoverage: whatever the arguments, it returns true, and what was in memory before is as it was. -/
import Derived.Test.YtbpcmdgfgibbjaaDoorCovS
import Derived.Test.YtbpcmdgfgibbjaaDoorTwoB
namespace Go.Proofs.YtbpcmdgfgibbjaaDoor.FnCoverageW
open Go.ChangeShapes Go.WideShapes Go.ChangeAt Go.RowKit
open Lst Mem SpecB SfntB View RunsL CovK CovS TwoB
open ListB (Asc intinfo listOf_any)

set_option maxHeartbeats 6400000 in
set_option maxRecDepth 4000 in
theorem walk (a0 a2 : Option Addr) (n cap0 m cap2 : Nat) (ls ms : List Int) (ranges : Bool) (w : World) (hn : n = ls.length) (hsz : n ≤ 100) (hl : ∀ x ∈ ls, 0 ≤ x ∧ x ≤ 65535)
    (hm : m = ms.length) (hsz2 : m ≤ 100) (hml : ∀ x ∈ ms, 0 ≤ x ∧ x ≤ 65535)
    (hsrc : 0 < n → ∃ b off, a0 = some ⟨b, off, none⟩ ∧ b < w.heap.size ∧ At w b off (vals .u16 ls)) (hsrc2 : 0 < m → ∃ b off, a2 = some ⟨b, off, none⟩ ∧ b < w.heap.size ∧ At w b off (vals .u16 ms)) :
    Calls Tryd.prog 4 #[.slice a0 n cap0, .bool ranges, .slice a2 m cap2] w fun e w' => e = .returned (.bool true) ∧ Below w.heap.size w w' := by
  obtain ⟨j0, hj0, jz0, jz1, jz2⟩ := info_parts intinfo
  have HLO := Lib.hid (listOf_any a0 n cap0 ls w hn hsz hl hsrc)
  have HM := Lib.hid hm
  have HML := Lib.hid hml
  have HS := Lib.hid hsrc2
  have e1 : ¬ ((2147483647 : Int) < n) := by omega
  have e2 : ¬ ((2147483647 : Int) < m) := by omega
  have e3 : ¬ ((100 : Int) < n) := by omega
  have e4 : ¬ ((100 : Int) < m) := by omega
  clear hn hl hsrc hm hml hsrc2
  go_enter Tryd.func4, Tryd.ntmps4
  go_wp2_with fail
  refine HLO.out.mono ?_
  rintro e w1 ⟨v, L, rfl, hasc, hlen, hLb, _, hown, hnil, hb1⟩
  obtain ⟨g, cap, rfl, hA, hcap, hg, hg'⟩ := own_open hown hnil
  obtain ⟨l, hl⟩ : ∃ l, l = L.length := ⟨_, rfl⟩
  rw [← hl] at hlen hcap
  have HCV := Lib.hid (coverage_any g l cap L ranges w1 hl (by omega) hLb hA hg hcap)
  have HA := Lib.hid hA
  have HL := Lib.hid hl
  have HLB := Lib.hid hLb
  have HASC := Lib.hid hasc
  have HB1 := Lib.hid hb1
  rw [← hl]
  clear hl hown hA hLb hasc hb1 hnil
  go_wp2_with fail
  refine HCV.out.mono ?_
  rintro e w2 ⟨v2, bs, rfl, hcov, hown2, hnil2, hb2⟩
  obtain ⟨g2, cap2', rfl, hA2, hcap2, hg2, hg2'⟩ := own_open hown2 hnil2
  obtain ⟨bl, hbl⟩ : ∃ bl, bl = bs.length := ⟨_, rfl⟩
  have HB2 := Lib.hid (HB1.out.trans (hb2.mono HB1.out.size))
  have HAL := Lib.hid (HA.out.keep hb2)
  have hgl : g < w2.heap.size := Nat.lt_of_lt_of_le hg hb2.size
  have HA2 := Lib.hid hA2
  have HBL := Lib.hid hbl
  have HCO := Lib.hid hcov
  have hbs : bl ≤ 100000 := by
    cases ranges
    · have hb : bs = words [1, (L.length : Int)] ++ words L := by simpa [Cov] using hcov
      rw [hbl, hb, List.length_append, words_len L]
      have := HL.out
      simp [words]
      omega
    · obtain ⟨P, hr, hb⟩ : ∃ P, Runs L (fun _ => 0) P L.length ∧ bs = words [2, (P.length : Int)] ++ words (trip L (fun a => (a : Int)) P) := by simpa [Cov] using hcov
      rw [hbl, hb, List.length_append, words_len (trip _ _ _), trip_len]
      have := hr.1
      have := HL.out
      simp [words]
      omega
  rw [← hbl]
  rw [← hbl] at hcap2
  clear hbl hown2 hA2 hcov hb2 hnil2
  go_wp2
  go_loopw [9, 10, 46] (fun a b i wr => ∃ k : Nat, k ≤ l ∧ i = .int .i64 k ∧ Two w2 wr a b (L.take k) ((L.take k).map (place L))) (fun _ _ i _ => l - (intOf i).toNat)
  case atStart =>
    refine ⟨0, Nat.zero_le _, rfl, (made_row w2 _).alloc _, ?_, by simp, by simp, by simp [Value.ownBlock], ((Below.refl _ _).alloc (Nat.le_refl _) _).alloc (by simp) _⟩
    have h := World.ownsRow_made (base := w2.heap.size) (e := 3) (size := 1) (w2.alloc (.cells #[] 3)) #[] 0 (by simp) (Nat.zero_le _) (by simp)
    rw [World.size_alloc] at h
    exact h
  case round =>
    obtain ⟨k, hk, rfl, htwo⟩ := hrel
    have HT := Lib.hid htwo
    clear htwo
    by_cases hlt : k < l
    · obtain ⟨x, hx⟩ : ∃ x, x = L.getD k 0 := ⟨_, rfl⟩
      have hlk : k < L.length := by rw [← HL.out]; exact hlt
      have hcell : wr.cell? ⟨g, k, none⟩ = some (.int .i64 x) := by
        have h := (HAL.out.below HT.out.2.2.2.2.2 hgl).get hlk
        rwa [Nat.zero_add, ← hx] at h
      have htk := take_snoc L k hlk
      rw [← hx] at htk
      have hpl : place L x = (k : Int) := place_at HASC.out hlk hx.symm
      have htm : (L.take (k + 1)).map (place L) = (L.take k).map (place L) ++ [(k : Int)] := by rw [htk, List.map_append, List.map_cons, List.map_nil, hpl]
      have htl : (L.take k).length = k := by rw [List.length_take]; omega
      have HTK := Lib.hid htk
      have HTM := Lib.hid htm
      have hx1 := HT.out.1
      rw [htl] at hx1
      have HX1 := Lib.hid hx1
      clear htk htm hx hpl hlk hx1
      go_wp2_with (at_builtin; refine wpList_append_own_at _ rfl _ _ 23 rfl w2.heap.size 3 j0 (.int .i64 0) 1 8 Tryd.underlying23 hj0 jz0 jz1 jz2 rfl (by decide) _ _ _ rfl (HX1.out.alloc _) ⟨wr.heap.size, 0, none⟩ 1 1 [.int .i64 x] rfl rfl (one_cell _ _ _) (one_ok _) ?c3 ?c4 ?c5 ?_)
      case c3 => unfold maxLen; omega
      case c4 => omega
      case c5 => have := HT.out.2.2.2.2.2.size; simp; omega
      intro v1 w3 own3 grow3 nil3 at3
      have h3 := (two_step (x := x) HT.out (by rw [htl]; exact own3) grow3 nil3 at3).symm
      have hx3 := h3.1
      rw [List.length_map, htl] at hx3
      have HX3 := Lib.hid hx3
      have HT3 := Lib.hid h3
      clear h3 hx3 own3 grow3 nil3 at3
      go_wp2_with (at_builtin; refine wpList_append_own_at _ rfl _ _ 23 rfl w2.heap.size 3 j0 (.int .i64 0) 1 8 Tryd.underlying23 hj0 jz0 jz1 jz2 rfl (by decide) _ _ _ rfl (HX3.out.alloc _) ⟨w3.heap.size, 0, none⟩ 1 1 [.int .i64 (k : Int)] rfl rfl (one_cell _ _ _) (one_ok _) ?d3 ?d4 ?d5 ?_)
      case d3 => unfold maxLen; omega
      case d4 => omega
      case d5 => have := HT3.out.2.2.2.2.2.size; simp; omega
      intro v4 w4 own4 grow4 nil4 at4
      have h4 := (two_step (x := (k : Int)) HT3.out (by rw [List.length_map, htl, List.map_take]; exact own4) grow4 nil4 at4).symm
      rw [← HTK.out, ← HTM.out] at h4
      have HT4 := Lib.hid h4
      clear h4 own4 grow4 nil4 at4
      go_wp2
      go_roundw
      case rel => exact ⟨k + 1, by omega, by go_num, HT4.out⟩
      case measure => simp [intOf]; omega
    · obtain rfl : k = l := by omega
      have ht0 := HT.out
      rw [List.take_of_length_le (by rw [← HL.out]; exact Nat.le_refl _)] at ht0
      have HT0 := Lib.hid ht0
      clear ht0 HT
      go_wp2
      go_loopw [9, 10, 62] (fun a b i wr => ∃ t : Nat, t ≤ m ∧ i = .int .i64 t ∧ Two w2 wr a b (L ++ ms.take t) ((L ++ ms.take t).map (place L))) (fun _ _ i _ => m - (intOf i).toNat)
      case atStart => exact ⟨0, Nat.zero_le _, rfl, by simpa using HT0.out⟩
      case round =>
        obtain ⟨t, ht, rfl, htwo⟩ := hrel
        have HT := Lib.hid htwo
        clear htwo
        by_cases htm : t < m
        · obtain ⟨b0, off0, rfl, hb0, hA0⟩ := HS.out (by omega)
          obtain ⟨x, hx⟩ : ∃ x, x = ms.getD t 0 := ⟨_, rfl⟩
          have hlk : t < ms.length := by rw [← HM.out]; exact htm
          have hxb : 0 ≤ x ∧ x ≤ 65535 := by
            rw [hx, List.getD_eq_getElem?_getD, List.getElem?_eq_getElem hlk]
            exact HML.out _ (List.getElem_mem _)
          have hcell : wr.cell? ⟨b0, off0 + t, none⟩ = some (.int .u16 x) := by
            rw [hx]
            exact ((HB2.out.trans (HT.out.2.2.2.2.2.mono HB2.out.size)).cell (p := ⟨b0, off0 + t, none⟩) hb0).trans (hA0.get hlk)
          have htk := take_snoc ms t hlk
          rw [← hx] at htk
          have htl : (L ++ ms.take t).length = k + t := by rw [List.length_append, List.length_take, ← HL.out]; omega
          have happ : L ++ ms.take (t + 1) = (L ++ ms.take t) ++ [x] := by rw [htk, List.append_assoc]
          have hapm : (L ++ ms.take (t + 1)).map (place L) = (L ++ ms.take t).map (place L) ++ [place L x] := by rw [happ, List.map_append, List.map_cons, List.map_nil]
          have HAP := Lib.hid happ
          have HAM := Lib.hid hapm
          have hx1 := HT.out.1
          rw [htl] at hx1
          have HX1 := Lib.hid hx1
          have HTL := Lib.hid htl
          have wx : IntKind.i64.wrap x = x := IntWalk.i64_in _ (by omega)
          have HC := Lib.hid (fun j (hj : j < k) => (show wr.cell? ⟨g, j, none⟩ = some (.int .i64 (L.getD j 0)) from by
            have h := (HAL.out.below HT.out.2.2.2.2.2 hgl).get (j := j) (by rw [← HL.out]; exact hj)
            rwa [Nat.zero_add] at h))
          clear htk happ hapm hx hlk hx1 hA0 htl
          go_wp2
          go_loopw [15, 68] (fun r i wr2 => ∃ j : Nat, j ≤ k ∧ i = .int .i64 j ∧ r = .int .i64 (placeTo L x j) ∧ wr = wr2) (fun _ i _ => k - (intOf i).toNat)
          case atStart => exact ⟨0, Nat.zero_le _, rfl, rfl, rfl⟩
          case round =>
            obtain ⟨j, hj, rfl, rfl, rfl⟩ := hrel
            by_cases hjk : j < k
            · have hc := HC.out j hjk
              obtain ⟨y, hy⟩ : ∃ y, y = L.getD j 0 := ⟨_, rfl⟩
              rw [← hy] at hc
              have HY := Lib.hid hy
              clear hy
              go_wp2
              · have he : y = x := by
                  have h : (y == x) = true := by assumption
                  simpa using h
                go_roundw
                case rel => exact ⟨j + 1, by omega, by go_num, by rw [placeTo, ← HY.out, if_pos he], by first | rfl | trivial⟩
                case measure => simp [intOf]; omega
              · have he : ¬ y = x := by
                  have h : (y == x) = false := by assumption
                  simpa using h
                go_roundw
                case rel => exact ⟨j + 1, by omega, by go_num, by rw [placeTo, ← HY.out, if_neg he], by first | rfl | trivial⟩
                case measure => simp [intOf]; omega
            · obtain rfl : j = k := by omega
              have hpj : placeTo L x j = place L x := by rw [place, ← HL.out]
              rw [hpj]
              obtain ⟨p, hp⟩ : ∃ p, p = place L x := ⟨_, rfl⟩
              rw [← hp]
              have HP := Lib.hid hp
              clear hp hpj
              go_wp2_with (at_builtin; refine wpList_append_own_at _ rfl _ _ 23 rfl w2.heap.size 3 j0 (.int .i64 0) 1 8 Tryd.underlying23 hj0 jz0 jz1 jz2 rfl (by decide) _ _ _ rfl (HX1.out.alloc _) ⟨wr.heap.size, 0, none⟩ 1 1 [.int .i64 x] rfl rfl (one_cell _ _ _) (one_ok _) ?e3 ?e4 ?e5 ?_)
              case e3 => unfold maxLen; omega
              case e4 => omega
              case e5 => have := HT.out.2.2.2.2.2.size; simp; omega
              intro v1 w3 own3 grow3 nil3 at3
              have h3 := (two_step (x := x) HT.out (by rw [HTL.out]; exact own3) grow3 nil3 at3).symm
              have hx3 := h3.1
              rw [List.length_map, HTL.out] at hx3
              have HX3 := Lib.hid hx3
              have HT3 := Lib.hid h3
              clear h3 hx3 own3 grow3 nil3 at3
              go_wp2_with (at_builtin; refine wpList_append_own_at _ rfl _ _ 23 rfl w2.heap.size 3 j0 (.int .i64 0) 1 8 Tryd.underlying23 hj0 jz0 jz1 jz2 rfl (by decide) _ _ _ rfl (HX3.out.alloc _) ⟨w3.heap.size, 0, none⟩ 1 1 [.int .i64 p] rfl rfl (one_cell _ _ _) (one_ok _) ?f3 ?f4 ?f5 ?_)
              case f3 => unfold maxLen; omega
              case f4 => omega
              case f5 => have := HT3.out.2.2.2.2.2.size; simp; omega
              intro v4 w4 own4 grow4 nil4 at4
              have h4 := (two_step (x := p) HT3.out (by rw [List.length_map, HTL.out]; simpa using own4) grow4 nil4 at4).symm
              rw [HP.out, ← HAP.out, ← HAM.out] at h4
              have HT4 := Lib.hid h4
              clear h4 own4 grow4 nil4 at4
              go_wp2
              go_roundw
              case rel => exact ⟨t + 1, by omega, by go_num, HT4.out⟩
              case measure => simp [intOf]; omega
        · obtain rfl : t = m := by omega
          have ht0 := HT.out
          rw [List.take_of_length_le (by rw [← HM.out]; exact Nat.le_refl _)] at ht0
          obtain ⟨ha, hb, na, nb, _, hbel⟩ := ht0
          obtain ⟨ga, capa, rfl, hAa, hcapa, hga, hga'⟩ := own_open ha na
          obtain ⟨gb, capb, rfl, hAb, hcapb, hgb, hgb'⟩ := own_open hb nb
          obtain ⟨gs, hgs⟩ : ∃ gs, gs = L ++ ms := ⟨_, rfl⟩
          rw [← hgs] at hAa hcapa hAb hcapb
          rw [← hgs]
          obtain ⟨q, hq⟩ : ∃ q, q = gs.length := ⟨_, rfl⟩
          have hq2 : q ≤ 200 := by rw [hq, hgs, List.length_append, ← HL.out, ← HM.out]; omega
          rw [List.length_map] at hcapb
          rw [← hq] at hcapa hcapb
          rw [List.length_map, ← hq]
          have HIM := Lib.hid (cov_any g2 bl cap2' q capa (some ⟨ga, 0, none⟩) bs gs L ranges wr HASC.out (by rw [← HL.out]; omega) HLB.out HCO.out HBL.out (HA2.out.below hbel (by exact hg2)) hq (by omega) (fun _ => ⟨ga, rfl, hga, hAa⟩) (fun x hx => by
            rw [hgs] at hx
            rcases List.mem_append.1 hx with h | h
            · exact HLB.out x h
            · exact HML.out x h))
          have HAB := Lib.hid hAb
          have HBE := Lib.hid (HB2.out.trans (hbel.mono HB2.out.size))
          have HQ := Lib.hid hq
          clear ha hb na nb hAa hAb hgs hq hbel
          go_wp2_with fail
          refine HIM.out.mono ?_
          rintro e w5 ⟨⟨v5, rfl, ho5⟩, hb5⟩
          have hAB5 := HAB.out.below (hb5.mono (Nat.le_refl _)) hgb
          have HAB5 := Lib.hid hAB5
          have HB5 := Lib.hid (HBE.out.trans (hb5.mono HBE.out.size))
          clear hb5 hAB5 HAB
          have hpb : ∀ j, j < q → -1 ≤ (gs.map (place L)).getD j 0 ∧ (gs.map (place L)).getD j 0 ≤ 1000 := fun j hj => by
            rw [List.getD_eq_getElem?_getD, List.getElem?_eq_getElem (by rw [List.length_map, ← HQ.out]; exact hj), List.getElem_map]
            have h := placeTo_bd L gs[j] L.length
            have h2 := HL.out
            unfold place
            simp only [Option.getD_some]
            omega
          have HPB := Lib.hid hpb
          clear hpb
          obtain ⟨A5, cm5, hv5, hs5⟩ : ∃ A5 cm5, v5 = .slice A5 q cm5 ∧ (0 < q → ∃ b, A5 = some ⟨b, 0, none⟩ ∧ At w5 b 0 (vals .i64 (gs.map (place L)))) := by
            by_cases hnil5 : v5 = .slice none 0 0
            · have hq0 : q = 0 := by
                rw [hnil5] at ho5
                rcases ho5.2 with ⟨_, h⟩ | ⟨g, cap, cur, h, _⟩
                · exact h
                · cases h
              exact ⟨none, 0, by rw [hnil5, hq0], fun h => absurd h (by omega)⟩
            · obtain ⟨g5, cap5, h1, h2, _, _, _⟩ := own_open ho5 hnil5
              exact ⟨_, cap5, h1, fun _ => ⟨g5, rfl, h2⟩⟩
          subst hv5
          have HS5 := Lib.hid hs5
          clear ho5 hs5
          go_wp2
          go_loopw [106] (fun i wr2 => ∃ j : Nat, j ≤ q ∧ i = .int .i64 j ∧ Below w5.heap.size w5 wr2) (fun i _ => q - (intOf i).toNat)
          case atStart => exact ⟨0, Nat.zero_le _, rfl, Below.refl _ _⟩
          case round =>
            obtain ⟨j, hj, rfl, hb6⟩ := hrel
            by_cases hjq : j < q
            · have hlj : j < (gs.map (place L)).length := by rw [List.length_map, ← HQ.out]; exact hjq
              obtain ⟨g5, rfl, hA5⟩ := HS5.out (by omega)
              have d1 := (hA5.keep hb6).get hlj
              have d2 := (HAB5.out.keep hb6).get hlj
              have hyb := HPB.out j hjq
              obtain ⟨y, hy⟩ : ∃ y, y = (gs.map (place L)).getD j 0 := ⟨_, rfl⟩
              rw [← hy, Nat.zero_add] at d1 d2
              rw [← hy] at hyb
              have HB6 := Lib.hid hb6
              have q5 : (j : Int) < (q : Int) := by omega
              clear hb6 hy hlj hA5
              go_wp2_with fail
              go_region_held3 (fun w' => w'.cell? ⟨g5, j, none⟩ = some (.int .i64 y) ∧ w'.cell? ⟨gb, j, none⟩ = some (.int .i64 y)) (exact ⟨d1, d2⟩) (fail)
              go_wp2
              exact ⟨⟨j + 1, by omega, by go_num, HB6.out.drew⟩, by simp [intOf]; omega⟩
            · have HB6 := Lib.hid (HB5.out.trans (hb6.mono HB5.out.size))
              clear hb6
              go_wp2
              go_ret
              exact ⟨rfl, HB6.out⟩

theorem src_of {k : IntKind} {w : World} {a : Option Addr} {n cap : Nat} {zs : List Int} (h : IsRow k w a n cap zs) (hn : 0 < n) : ∃ b off, a = some ⟨b, off, none⟩ ∧ b < w.heap.size ∧ At w b off (vals k (zs.take n)) := by
  have hr := Rd.of_ints h
  rcases a with _ | ⟨b, off, spot⟩
  · have := (hr.2.2 rfl).1
    omega
  · have hl := h.len
    obtain ⟨u, hu⟩ : ∃ u, (vals k (zs.take n))[0]? = some u := ⟨_, List.getElem?_eq_getElem (by rw [vals_len]; omega)⟩
    have hc := hr.2.1 _ rfl 0 u hu
    have hspot : spot = none := by simpa [Addr.add] using World.cell?_spot hc
    subst hspot
    refine ⟨b, off, rfl, World.block_lt_of_cell? w _ hc, fun j v hv => ?_⟩
    have := hr.2.1 _ rfl j v hv
    rwa [Addr.add_lit] at this

theorem row (a0 : Option Addr) (n cap0 : Nat) (zs : List Int) (ranges : Bool) (a2 : Option Addr) (m cap2 : Nat) (ys : List Int) (w : World) (w0 : IsRow .u16 w a0 n cap0 zs) (w2 : IsRow .u16 w a2 m cap2 ys) :
    Calls Tryd.prog 4 #[.slice a0 n cap0, .bool ranges, .slice a2 m cap2] w fun e w' => e = .returned (.bool true) ∧ Below w.heap.size w w' := by
  by_cases h1 : (2147483647 : Int) < (n : Int)
  · clear w0 w2
    go_enter Tryd.func4, Tryd.ntmps4
    go_wp2
    go_ret
    exact ⟨rfl, Below.refl _ _⟩
  by_cases h2 : (2147483647 : Int) < (m : Int)
  · clear w0 w2
    go_enter Tryd.func4, Tryd.ntmps4
    go_wp2
    go_ret
    exact ⟨rfl, Below.refl _ _⟩
  by_cases h3 : (100 : Int) < (n : Int)
  · clear w0 w2
    go_enter Tryd.func4, Tryd.ntmps4
    go_wp2
    go_ret
    exact ⟨rfl, Below.refl _ _⟩
  by_cases h4 : (100 : Int) < (m : Int)
  · clear w0 w2
    go_enter Tryd.func4, Tryd.ntmps4
    go_wp2
    go_ret
    exact ⟨rfl, Below.refl _ _⟩
  exact walk a0 a2 n cap0 m cap2 (zs.take n) (ys.take m) ranges w w0.len.symm (by omega) (fun y hy => bounds_u16 (w0.wf y hy)) w2.len.symm (by omega) (fun y hy => bounds_u16 (w2.wf y hy)) (src_of w0) (src_of w2)
end Go.Proofs.YtbpcmdgfgibbjaaDoor.FnCoverageW
