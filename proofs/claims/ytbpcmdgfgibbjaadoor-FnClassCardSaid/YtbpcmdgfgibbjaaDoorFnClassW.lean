/- The walk of FnClass: whatever the arguments, it returns true, and what was in memory before is as it was. -/
import Derived.Test.YtbpcmdgfgibbjaaDoorClsS
import Derived.Test.YtbpcmdgfgibbjaaDoorTwoB
import Derived.Maps.Views
namespace Go.Proofs.YtbpcmdgfgibbjaaDoor.FnClassW
open Go.ChangeShapes Go.WideShapes Go.ChangeAt Go.RowKit Go.Maps
open Lst Mem SpecB SfntB View RunsL ClsK ClsS TwoB
open ListB (Asc intinfo listOf_any)
open CovA (below_draws)

/-- block M is a map that tells the classes of a list's first glyphs -/
def Part (w : World) (M : Nat) (L : List Int) (k : Nat) : Prop :=
  ∃ D : DataW Unit, w.ownsMap Tryd.prog 3 (plainElem Tryd.prog 3) M k D ∧ ∀ x, D.atKey (.int .i64 x) (.lit (.int .i64 0)) = .lit (.int .i64 (cls (L.take k) x))
theorem Part.nil_ (w : World) (L : List Int) : Part (w.alloc (.map #[] 0)) w.heap.size L 0 := ⟨_, World.ownsMap_made w _ _ _, fun x => by simp [cls]; rfl⟩
theorem Part.to {w : World} {M : Nat} {L : List Int} (h : Part w M L L.length) : IsCls w M L := by
  obtain ⟨D, h1, h2⟩ := h
  exact ⟨_, D, h1, fun x _ => by rw [h2, List.take_length]⟩
theorem Part.step {w w' : World} {M k : Nat} {L : List Int} {x : Int} {D : DataW Unit} (hk : k < L.length) (hx : x = L.getD k 0)
    (h1 : w.ownsMap Tryd.prog 3 (plainElem Tryd.prog 3) M k D) (h2 : ∀ x, D.atKey (.int .i64 x) (.lit (.int .i64 0)) = .lit (.int .i64 (cls (L.take k) x)))
    (h : w'.ownsMap Tryd.prog 3 (plainElem Tryd.prog 3) M (k + 1) (D.put (.int .i64 x) (.lit (.int .i64 (1 + x % 3))))) : Part w' M L (k + 1) := by
  refine ⟨_, h, fun y => ?_⟩
  rw [take_snoc L k hk, ← hx]
  by_cases hy : y = x
  · rw [hy, Maps.atKey_put_same h1.isMap (by trivial)]
    simp [cls]
  · rw [Maps.atKey_put_other (by simpa using hy), h2]
    simp [cls, hy]

/-- a row of numbers of the call's own, not nil; what was there before is as it was -/
def One (w0 w : World) (a : Value) (xs : List Int) : Prop := w.ownsRow w0.heap.size 3 1 a xs.length (vals .i64 xs) ∧ a ≠ .slice none 0 0 ∧ Below w0.heap.size w0 w
theorem One.step {w0 w w1 : World} {a v1 : Value} {xs : List Int} {x : Int} (h : One w0 w a xs) (hown : w1.ownsRow w0.heap.size 3 1 v1 (xs.length + 1) (vals .i64 xs ++ [.int .i64 x]))
    {o : Obj} (hgrow : (w.alloc o).grownBy w1 a.ownBlock) (hnil : ¬ v1 = .slice none 0 0) : One w0 w1 v1 (xs ++ [x]) := by
  refine ⟨by rw [vals_app, List.length_append]; exact hown, hnil, ?_⟩
  have hbel := h.2.2
  exact (hbel.alloc hbel.size _).grown hgrow (by have := hbel.size; simp; omega) (fun g hg => own_ge h.1 hg)

set_option maxHeartbeats 6400000 in
set_option maxRecDepth 4000 in
theorem walk (a0 a2 : Option Addr) (n cap0 m cap2 : Nat) (ls ms : List Int) (ranges : Bool) (w : World) (hn : n = ls.length) (h0 : 0 < n) (hsz : n ≤ 100) (hl : ∀ x ∈ ls, 0 ≤ x ∧ x ≤ 65535)
    (hm : m = ms.length) (hsz2 : m ≤ 100) (hml : ∀ x ∈ ms, 0 ≤ x ∧ x ≤ 65535)
    (hsrc : 0 < n → ∃ b off, a0 = some ⟨b, off, none⟩ ∧ b < w.heap.size ∧ At w b off (vals .u16 ls)) (hsrc2 : 0 < m → ∃ b off, a2 = some ⟨b, off, none⟩ ∧ b < w.heap.size ∧ At w b off (vals .u16 ms)) :
    Calls Tryd.prog 3 #[.slice a0 n cap0, .bool ranges, .slice a2 m cap2] w fun e w' => e = .returned (.bool true) ∧ Below w.heap.size w w' := by
  obtain ⟨j0, hj0, jz0, jz1, jz2⟩ := info_parts intinfo
  have HLO := Lib.hid (listOf_any a0 n cap0 ls w hn hsz hl hsrc)
  have HM := Lib.hid hm
  have HML := Lib.hid hml
  have HS := Lib.hid hsrc2
  have e1 : ¬ ((2147483647 : Int) < n) := by omega
  have e2 : ¬ ((2147483647 : Int) < m) := by omega
  have e3 : ¬ ((100 : Int) < n) := by omega
  have e4 : ¬ ((100 : Int) < m) := by omega
  have e5 : ((n : Int) == 0) = false := by simp; omega
  have e6 : ¬ (n = 0) := by omega
  clear hn hl hsrc hm hml hsrc2
  go_enter Tryd.func3, Tryd.ntmps3
  go_wp2_with fail
  refine HLO.out.mono ?_
  rintro e w1 ⟨v, L, rfl, hasc, hlen, hLb, hne, hown, hnil, hb1⟩
  obtain ⟨g, cap, rfl, hA, hcap, hg, hg'⟩ := own_open hown hnil
  obtain ⟨l, hl⟩ : ∃ l, l = L.length := ⟨_, rfl⟩
  have hl0 : 0 < l := by
    rw [hl]
    exact List.length_pos_iff.2 (hne h0)
  rw [← hl] at hlen hcap
  obtain ⟨a, ha⟩ : ∃ a, a = L.getD 0 0 := ⟨_, rfl⟩
  obtain ⟨p, hp⟩ : ∃ p : Nat, (l : Int) - 1 = (p : Int) := ⟨l - 1, by omega⟩
  obtain ⟨b, hb⟩ : ∃ b, b = L.getD p 0 := ⟨_, rfl⟩
  have bd := fun j (hj : j < l) => (show 0 ≤ L.getD j 0 ∧ L.getD j 0 ≤ 65535 from by
    rw [List.getD_eq_getElem?_getD, List.getElem?_eq_getElem (by rw [← hl]; exact hj)]
    exact hLb _ (List.getElem_mem _))
  have ba := bd 0 hl0
  have bb := bd p (by omega)
  have ca := hA.get (j := 0) (by rw [← hl]; exact hl0)
  have cb := hA.get (j := p) (by rw [← hl]; omega)
  rw [Nat.zero_add, ← ha] at ca
  rw [Nat.zero_add, ← hb] at cb
  rw [← ha] at ba
  rw [← hb] at bb
  have hsp : b - a ≤ 1000 → b ≠ 65535 → span L ≤ 2000 ∧ L.getD (L.length - 1) 0 ≤ 65534 := fun h1 h2 => by
    unfold span
    rw [← hl, show l - 1 = p by omega, ← hb, ← ha]
    omega
  have HSP := Lib.hid hsp
  have HA := Lib.hid hA
  have HL := Lib.hid hl
  have HLB := Lib.hid hLb
  have HASC := Lib.hid hasc
  have HB1 := Lib.hid hb1
  have HBD := Lib.hid bd
  rw [← hl]
  have i1 : IntKind.i64.wrap (p : Int) = (p : Int) := IntWalk.i64_in _ (by omega)
  have i2 : p < l := by omega
  have i3 : IntKind.i64.wrap (b - a) = b - a := IntWalk.i64_in _ (by omega)
  have i4 : (p : Int) < (l : Int) := by omega
  have i5 : (0 : Int) < (l : Int) := by omega
  clear hl hown hA hLb hasc hb1 hnil hne hsp bd ha hb
  have hc : ranges = true ∨ (ranges = false ∧ ¬ (1000 < b - a) ∧ b ≠ 65535) ∨ (ranges = false ∧ 1000 < b - a) ∨ (ranges = false ∧ ¬ (1000 < b - a) ∧ b = 65535) := by
    cases ranges
    · by_cases h1 : 1000 < b - a
      · exact .inr (.inr (.inl ⟨rfl, h1⟩))
      · by_cases h2 : b = 65535
        · exact .inr (.inr (.inr ⟨rfl, h1, h2⟩))
        · exact .inr (.inl ⟨rfl, h1, h2⟩)
    · exact .inl rfl
  rcases hc with rfl | ⟨rfl, h1, h2⟩ | ⟨rfl, h1⟩ | ⟨rfl, h1, rfl⟩
  case inr.inr.inl =>
    go_wp2
    go_quiet (fail)
    go_wp2
    go_ret
    exact ⟨rfl, below_draws HB1.out _⟩
  case inr.inr.inr =>
    go_wp2
    go_quiet (fail)
    go_wp2
    go_ret
    exact ⟨rfl, below_draws HB1.out _⟩
  case inr.inl =>
    have h3 : (b == 65535) = false := by simpa using h2
    have HR := Lib.hid (HSP.out (by omega) h2)
    clear h2 HSP
    have hmm := @run_makeMap Tryd.prog
    go_wp2
    go_quiet (fail)
    go_wp2
    clear hmm
    have hd1 : Below w1.heap.size w1 (w1.drewN nq) := below_draws (Below.refl _ _) nq
    go_loopw [71] (fun i wr => ∃ k : Nat, k ≤ l ∧ i = .int .i64 k ∧ Part wr w1.heap.size L k ∧ Below w1.heap.size w1 wr) (fun i _ => l - (intOf i).toNat)
    case atStart => exact ⟨0, Nat.zero_le _, rfl, Part.nil_ (w1.drewN nq) L, hd1.alloc (Nat.le_refl _) _⟩
    case round =>
      obtain ⟨k, hk, rfl, ⟨D, hD, hDat⟩, hbel⟩ := hrel
      by_cases hlt : k < l
      · obtain ⟨x, hx⟩ : ∃ x, x = L.getD k 0 := ⟨_, rfl⟩
        have hlk : k < L.length := by rw [← HL.out]; exact hlt
        have hcell : wr.cell? ⟨g, k, none⟩ = some (.int .i64 x) := by
          have h := (HA.out.keep hbel).get hlk
          rwa [Nat.zero_add, ← hx] at h
        have hxb := HBD.out k hlt
        rw [← hx] at hxb
        have hx3 : x.tmod 3 = x % 3 := Int.tmod_eq_emod_of_nonneg hxb.1
        have hx4 : IntKind.i64.wrap (1 + x % 3) = 1 + x % 3 := IntWalk.i64_in _ (by omega)
        have HX := Lib.hid hx
        have HBE := Lib.hid hbel
        have HAT := Lib.hid hDat
        have HDD := Lib.hid hD
        clear hx hbel hDat hD
        go_wp2_with (at_mapUpdate; refine wpList_mapUpdate_own _ rfl _ _ _ 25 rfl 3 3 keyI Tryd.underlying25 _ w1.heap.size k D rfl HDD.out (by unfold maxLen; omega) _ _ (.int .i64 x) rfl rfl (keyOf_int_mk Tryd.underlying3 (WalkArith.wf_i64 (by omega))) (.lit (.int .i64 (1 + x % 3))) [] (plainElem_int Tryd.underlying3 (WalkArith.wf_i64 (by omega))) ?_)
        intro w3 own3 grow3
        have hp3 := Part.step hlk HX.out HDD.out HAT.out own3
        have hb3 : Below w1.heap.size w1 w3 := HBE.out.grown grow3 HBE.out.size (fun g hg => by cases hg; exact Nat.le_refl _)
        have HE := Lib.hid (And.intro hp3 hb3)
        clear hp3 hb3 own3 grow3
        go_wp2
        go_roundw
        case rel => exact ⟨k + 1, by omega, by go_num, HE.out.1, HE.out.2⟩
        case measure => simp [intOf]; omega
      · obtain rfl : k = l := by omega
        have hcl : IsCls wr w1.heap.size L := Part.to (by rw [← HL.out]; exact ⟨D, hD, hDat⟩)
        have hgr : g < wr.heap.size := Nat.lt_of_lt_of_le hg hbel.size
        have HCB := Lib.hid (classes_bytes g k cap w1.heap.size L false wr HL.out hl0 (by omega) HLB.out HASC.out (HA.out.keep hbel) hgr hcl hcap (fun _ => HR.out.1))
        have HCL := Lib.hid hcl
        have HBR := Lib.hid (HB1.out.trans (hbel.mono HB1.out.size))
        have HAR := Lib.hid (HA.out.keep hbel)
        clear hcl hbel hD hDat
        go_wp2_with fail
        refine HCB.out.mono ?_
        rintro e w2 ⟨v2, bs, rfl, hclb, hown2, hnil2, hb2⟩
        obtain ⟨g2, cap2', rfl, hA2, hcap2, hg2, hg2'⟩ := own_open hown2 hnil2
        obtain ⟨bl, hbl⟩ : ∃ bl, bl = bs.length := ⟨_, rfl⟩
        have HB2 := Lib.hid (HBR.out.trans (hb2.mono HBR.out.size))
        have HAL := Lib.hid (HAR.out.keep hb2)
        have HC2 := Lib.hid (HCL.out.below hb2 HCL.out.lt)
        have HA2 := Lib.hid hA2
        have HBL := Lib.hid hbl
        have HCO := Lib.hid hclb
        rw [← hbl] at hcap2 ⊢
        clear hbl hown2 hA2 hclb hb2 hnil2
        go_wp2
        go_loopw [12, 88] (fun a i wr2 => ∃ t : Nat, t ≤ k ∧ i = .int .i64 t ∧ One w2 wr2 a (L.take t)) (fun _ i _ => k - (intOf i).toNat)
        case atStart => exact ⟨0, Nat.zero_le _, rfl, made_row w2 _, by simp, bel_made w2 _ _⟩
        case round =>
          obtain ⟨t, ht, rfl, hone⟩ := hrel
          have HT := Lib.hid hone
          clear hone
          by_cases htk : t < k
          · obtain ⟨x, hx⟩ : ∃ x, x = L.getD t 0 := ⟨_, rfl⟩
            have hlk : t < L.length := by rw [← HL.out]; exact htk
            have hcell : wr.cell? ⟨g, t, none⟩ = some (.int .i64 x) := by
              have h := (HAL.out.keep HT.out.2.2).get hlk
              rwa [Nat.zero_add, ← hx] at h
            have htt := take_snoc L t hlk
            rw [← hx] at htt
            have htl : (L.take t).length = t := by rw [List.length_take]; omega
            have HTT := Lib.hid htt
            have hx1 := HT.out.1
            rw [htl] at hx1
            have HX1 := Lib.hid hx1
            clear htt hx hlk hx1
            go_wp2_with (at_builtin; refine wpList_append_own _ rfl _ _ 23 rfl w2.heap.size 3 j0 (.int .i64 0) 1 8 Tryd.underlying23 hj0 jz0 jz1 jz2 rfl (by decide) _ _ _ rfl (HX1.out.alloc _) ⟨wr.heap.size, 0, none⟩ 1 1 [.int .i64 x] rfl rfl (one_cell _ _ _) (one_ok _) ?c3 ?c4 ?c5 ?_)
            case c3 => unfold maxLen; omega
            case c4 => omega
            case c5 => have := HT.out.2.2.size; simp; omega
            intro v1 w3 own3 grow3 nil3
            have h3 := HT.out.step (x := x) (by rw [htl]; exact own3) grow3 (fun h => by first | exact nil3 h | exact HT.out.2.1 (nil3.1 h).1)
            rw [← HTT.out] at h3
            have HT3 := Lib.hid h3
            clear h3 own3 grow3 nil3
            go_wp2
            go_roundw
            case rel => exact ⟨t + 1, by omega, by go_num, HT3.out⟩
            case measure => simp [intOf]; omega
          · obtain rfl : t = k := by omega
            have ht0 := HT.out
            rw [List.take_of_length_le (by rw [← HL.out]; exact Nat.le_refl _)] at ht0
            have HT0 := Lib.hid ht0
            clear ht0 HT
            go_wp2
            go_loopw [12, 99] (fun a i wr3 => ∃ s : Nat, s ≤ m ∧ i = .int .i64 s ∧ One w2 wr3 a (L ++ ms.take s)) (fun _ i _ => m - (intOf i).toNat)
            case atStart => exact ⟨0, Nat.zero_le _, rfl, by simpa using HT0.out⟩
            case round =>
              obtain ⟨s, hs, rfl, hone⟩ := hrel
              have HT := Lib.hid hone
              clear hone
              by_cases hsm : s < m
              · obtain ⟨b0, off0, rfl, hb0, hA0⟩ := HS.out (by omega)
                obtain ⟨x, hx⟩ : ∃ x, x = ms.getD s 0 := ⟨_, rfl⟩
                have hlk : s < ms.length := by rw [← HM.out]; exact hsm
                have hxb : 0 ≤ x ∧ x ≤ 65535 := by
                  rw [hx, List.getD_eq_getElem?_getD, List.getElem?_eq_getElem hlk]
                  exact HML.out _ (List.getElem_mem _)
                have hcell : wr.cell? ⟨b0, off0 + s, none⟩ = some (.int .u16 x) := by
                  rw [hx]
                  exact ((HB2.out.trans (HT.out.2.2.mono HB2.out.size)).cell (p := ⟨b0, off0 + s, none⟩) hb0).trans (hA0.get hlk)
                have htk := take_snoc ms s hlk
                rw [← hx] at htk
                have htl : (L ++ ms.take s).length = t + s := by rw [List.length_append, List.length_take, ← HL.out]; omega
                have happ : L ++ ms.take (s + 1) = (L ++ ms.take s) ++ [x] := by rw [htk, List.append_assoc]
                have HAP := Lib.hid happ
                have hx1 := HT.out.1
                rw [htl] at hx1
                have HX1 := Lib.hid hx1
                have wx : IntKind.i64.wrap x = x := IntWalk.i64_in _ (by omega)
                clear htk happ hx hlk hx1 hA0
                go_wp2_with (at_builtin; refine wpList_append_own _ rfl _ _ 23 rfl w2.heap.size 3 j0 (.int .i64 0) 1 8 Tryd.underlying23 hj0 jz0 jz1 jz2 rfl (by decide) _ _ _ rfl (HX1.out.alloc _) ⟨wr.heap.size, 0, none⟩ 1 1 [.int .i64 x] rfl rfl (one_cell _ _ _) (one_ok _) ?c3 ?c4 ?c5 ?_)
                case c3 => unfold maxLen; omega
                case c4 => omega
                case c5 => have := HT.out.2.2.size; simp; omega
                intro v1 w3 own3 grow3 nil3
                have h3 := HT.out.step (x := x) (by rw [htl]; exact own3) grow3 (fun h => by first | exact nil3 h | exact HT.out.2.1 (nil3.1 h).1)
                rw [← HAP.out] at h3
                have HT3 := Lib.hid h3
                clear h3 own3 grow3 nil3
                go_wp2
                go_roundw
                case rel => exact ⟨s + 1, by omega, by go_num, HT3.out⟩
                case measure => simp [intOf]; omega
              · obtain rfl : s = m := by omega
                have ht0 := HT.out
                rw [List.take_of_length_le (by rw [← HM.out]; exact Nat.le_refl _)] at ht0
                obtain ⟨ha, na, hbel⟩ := ht0
                obtain ⟨ga, capa, rfl, hAa, hcapa, hga, hga'⟩ := own_open ha na
                obtain ⟨gs, hgs⟩ : ∃ gs, gs = L ++ ms := ⟨_, rfl⟩
                rw [← hgs] at hAa hcapa
                rw [← hgs]
                obtain ⟨q, hq⟩ : ∃ q, q = gs.length := ⟨_, rfl⟩
                have hq2 : q ≤ 200 := by rw [hq, hgs, List.length_append, ← HL.out, ← HM.out]; omega
                rw [← hq] at hcapa ⊢
                have hgsb : ∀ x ∈ gs, 0 ≤ x ∧ x ≤ 65535 := fun x hx => by
                  rw [hgs] at hx
                  rcases List.mem_append.1 hx with h | h
                  · exact HLB.out x h
                  · exact HML.out x h
                have HIM := Lib.hid (class_any g2 bl cap2' q capa (some ⟨ga, 0, none⟩) bs gs L false wr HASC.out (by rw [← HL.out]; omega) (by rw [← HL.out]; omega) HLB.out (fun _ => HR.out) HCO.out HBL.out (HA2.out.below hbel (by exact hg2)) hq (by omega) (fun _ => ⟨ga, rfl, hga, hAa⟩) hgsb)
                have HAA := Lib.hid hAa
                have HBE := Lib.hid (HB2.out.trans (hbel.mono HB2.out.size))
                have HC3 := Lib.hid (HC2.out.below hbel HC2.out.lt)
                have HQ := Lib.hid hq
                have HGB := Lib.hid hgsb
                clear ha na hAa hgs hq hbel hgsb
                go_wp2_with fail
                refine HIM.out.mono ?_
                rintro e w5 ⟨⟨v5, rfl, ho5⟩, hb5⟩
                have HAA5 := Lib.hid (HAA.out.below hb5 hga)
                have HC5 := Lib.hid (HC3.out.below hb5 HC3.out.lt)
                have HB5 := Lib.hid (HBE.out.trans (hb5.mono HBE.out.size))
                clear hb5 HAA
                obtain ⟨A5, cm5, hv5, hs5⟩ : ∃ A5 cm5, v5 = .slice A5 q cm5 ∧ (0 < q → ∃ b, A5 = some ⟨b, 0, none⟩ ∧ At w5 b 0 (vals .i64 (gs.map (cls L)))) := by
                  by_cases hnil5 : v5 = .slice none 0 0
                  · have hq0 : q = 0 := by
                      rw [hnil5] at ho5
                      rcases ho5.2 with ⟨_, h⟩ | ⟨g, cap, cur, h, _⟩
                      · exact h
                      · cases h
                    exact ⟨none, 0, by rw [hnil5, hq0], fun h => absurd h (by omega)⟩
                  · obtain ⟨g5, cap5, h1, h2, _, _, _⟩ := own_open ho5 hnil5
                    exact ⟨_, cap5, h1, fun _ => ⟨g5, rfl, h2⟩⟩
                subst hv5
                have HS5 := Lib.hid hs5
                clear ho5 hs5
                go_wp2
                go_loopw [126] (fun i wr4 => ∃ j : Nat, j ≤ q ∧ i = .int .i64 j ∧ ∃ d, w5.drewN d = wr4) (fun i _ => q - (intOf i).toNat)
                case atStart => exact ⟨0, Nat.zero_le _, rfl, 0, rfl⟩
                case round =>
                  obtain ⟨j, hj, rfl, d, rfl⟩ := hrel
                  by_cases hjq : j < q
                  · have hlj : j < gs.length := by rw [← HQ.out]; exact hjq
                    obtain ⟨g5, rfl, hA5⟩ := HS5.out (by omega)
                    have d1 := hA5.get (j := j) (by rw [List.length_map]; exact hlj)
                    have d2 := HAA5.out.get hlj
                    rw [Nat.zero_add] at d1 d2
                    have hm0 : (gs.map (cls L)).getD j 0 = cls L (gs.getD j 0) := by
                      rw [List.getD_eq_getElem?_getD, List.getD_eq_getElem?_getD, List.getElem?_eq_getElem (by rw [List.length_map]; exact hlj), List.getElem?_eq_getElem hlj, List.getElem_map]
                      rfl
                    rw [hm0] at d1
                    have hxb : 0 ≤ gs.getD j 0 ∧ gs.getD j 0 ≤ 65535 := HGB.out _ (by rw [List.getD_eq_getElem?_getD, List.getElem?_eq_getElem hlj]; exact List.getElem_mem _)
                    have lk := fun N => ((HC5.out.below (below_draws (Below.refl w5.heap.size w5) N) HC5.out.lt).look (x := gs.getD j 0) (WalkArith.wf_i64 (by omega)))
                    obtain ⟨y, hy⟩ : ∃ y, y = cls L (gs.getD j 0) := ⟨_, rfl⟩
                    rw [← hy] at d1 lk
                    obtain ⟨x, hx⟩ : ∃ x, x = gs.getD j 0 := ⟨_, rfl⟩
                    rw [← hx] at d2 lk
                    have q5 : (j : Int) < (q : Int) := by omega
                    have q6 : (y != y) = false := by simp
                    clear hA5 hm0 hlj hy hx hxb
                    go_wp2
                    go_quiet (fail)
                    go_wp2
                    go_roundw
                    case rel => exact ⟨j + 1, by omega, by go_num, _, rfl⟩
                    case measure => simp [intOf]; omega
                  · have HB6 := Lib.hid (below_draws HB5.out d)
                    go_wp2
                    go_ret
                    exact ⟨rfl, HB6.out⟩
  case inl =>
    clear HSP
    have hmm := @run_makeMap Tryd.prog
    go_wp2
    go_quiet (fail)
    go_wp2
    clear hmm
    have hd1 : Below w1.heap.size w1 (w1.drewN nq) := below_draws (Below.refl _ _) nq
    go_loopw [71] (fun i wr => ∃ k : Nat, k ≤ l ∧ i = .int .i64 k ∧ Part wr w1.heap.size L k ∧ Below w1.heap.size w1 wr) (fun i _ => l - (intOf i).toNat)
    case atStart => exact ⟨0, Nat.zero_le _, rfl, Part.nil_ (w1.drewN nq) L, hd1.alloc (Nat.le_refl _) _⟩
    case round =>
      obtain ⟨k, hk, rfl, ⟨D, hD, hDat⟩, hbel⟩ := hrel
      by_cases hlt : k < l
      · obtain ⟨x, hx⟩ : ∃ x, x = L.getD k 0 := ⟨_, rfl⟩
        have hlk : k < L.length := by rw [← HL.out]; exact hlt
        have hcell : wr.cell? ⟨g, k, none⟩ = some (.int .i64 x) := by
          have h := (HA.out.keep hbel).get hlk
          rwa [Nat.zero_add, ← hx] at h
        have hxb := HBD.out k hlt
        rw [← hx] at hxb
        have hx3 : x.tmod 3 = x % 3 := Int.tmod_eq_emod_of_nonneg hxb.1
        have hx4 : IntKind.i64.wrap (1 + x % 3) = 1 + x % 3 := IntWalk.i64_in _ (by omega)
        have HX := Lib.hid hx
        have HBE := Lib.hid hbel
        have HAT := Lib.hid hDat
        have HDD := Lib.hid hD
        clear hx hbel hDat hD
        go_wp2_with (at_mapUpdate; refine wpList_mapUpdate_own _ rfl _ _ _ 25 rfl 3 3 keyI Tryd.underlying25 _ w1.heap.size k D rfl HDD.out (by unfold maxLen; omega) _ _ (.int .i64 x) rfl rfl (keyOf_int_mk Tryd.underlying3 (WalkArith.wf_i64 (by omega))) (.lit (.int .i64 (1 + x % 3))) [] (plainElem_int Tryd.underlying3 (WalkArith.wf_i64 (by omega))) ?_)
        intro w3 own3 grow3
        have hp3 := Part.step hlk HX.out HDD.out HAT.out own3
        have hb3 : Below w1.heap.size w1 w3 := HBE.out.grown grow3 HBE.out.size (fun g hg => by cases hg; exact Nat.le_refl _)
        have HE := Lib.hid (And.intro hp3 hb3)
        clear hp3 hb3 own3 grow3
        go_wp2
        go_roundw
        case rel => exact ⟨k + 1, by omega, by go_num, HE.out.1, HE.out.2⟩
        case measure => simp [intOf]; omega
      · obtain rfl : k = l := by omega
        have hcl : IsCls wr w1.heap.size L := Part.to (by rw [← HL.out]; exact ⟨D, hD, hDat⟩)
        have hgr : g < wr.heap.size := Nat.lt_of_lt_of_le hg hbel.size
        have HCB := Lib.hid (classes_bytes g k cap w1.heap.size L true wr HL.out hl0 (by omega) HLB.out HASC.out (HA.out.keep hbel) hgr hcl hcap (fun h => by cases h))
        have HCL := Lib.hid hcl
        have HBR := Lib.hid (HB1.out.trans (hbel.mono HB1.out.size))
        have HAR := Lib.hid (HA.out.keep hbel)
        clear hcl hbel hD hDat
        go_wp2_with fail
        refine HCB.out.mono ?_
        rintro e w2 ⟨v2, bs, rfl, hclb, hown2, hnil2, hb2⟩
        obtain ⟨g2, cap2', rfl, hA2, hcap2, hg2, hg2'⟩ := own_open hown2 hnil2
        obtain ⟨bl, hbl⟩ : ∃ bl, bl = bs.length := ⟨_, rfl⟩
        have HB2 := Lib.hid (HBR.out.trans (hb2.mono HBR.out.size))
        have HAL := Lib.hid (HAR.out.keep hb2)
        have HC2 := Lib.hid (HCL.out.below hb2 HCL.out.lt)
        have HA2 := Lib.hid hA2
        have HBL := Lib.hid hbl
        have HCO := Lib.hid hclb
        rw [← hbl] at hcap2 ⊢
        clear hbl hown2 hA2 hclb hb2 hnil2
        go_wp2
        go_loopw [12, 88] (fun a i wr2 => ∃ t : Nat, t ≤ k ∧ i = .int .i64 t ∧ One w2 wr2 a (L.take t)) (fun _ i _ => k - (intOf i).toNat)
        case atStart => exact ⟨0, Nat.zero_le _, rfl, made_row w2 _, by simp, bel_made w2 _ _⟩
        case round =>
          obtain ⟨t, ht, rfl, hone⟩ := hrel
          have HT := Lib.hid hone
          clear hone
          by_cases htk : t < k
          · obtain ⟨x, hx⟩ : ∃ x, x = L.getD t 0 := ⟨_, rfl⟩
            have hlk : t < L.length := by rw [← HL.out]; exact htk
            have hcell : wr.cell? ⟨g, t, none⟩ = some (.int .i64 x) := by
              have h := (HAL.out.keep HT.out.2.2).get hlk
              rwa [Nat.zero_add, ← hx] at h
            have htt := take_snoc L t hlk
            rw [← hx] at htt
            have htl : (L.take t).length = t := by rw [List.length_take]; omega
            have HTT := Lib.hid htt
            have hx1 := HT.out.1
            rw [htl] at hx1
            have HX1 := Lib.hid hx1
            clear htt hx hlk hx1
            go_wp2_with (at_builtin; refine wpList_append_own _ rfl _ _ 23 rfl w2.heap.size 3 j0 (.int .i64 0) 1 8 Tryd.underlying23 hj0 jz0 jz1 jz2 rfl (by decide) _ _ _ rfl (HX1.out.alloc _) ⟨wr.heap.size, 0, none⟩ 1 1 [.int .i64 x] rfl rfl (one_cell _ _ _) (one_ok _) ?c3 ?c4 ?c5 ?_)
            case c3 => unfold maxLen; omega
            case c4 => omega
            case c5 => have := HT.out.2.2.size; simp; omega
            intro v1 w3 own3 grow3 nil3
            have h3 := HT.out.step (x := x) (by rw [htl]; exact own3) grow3 (fun h => by first | exact nil3 h | exact HT.out.2.1 (nil3.1 h).1)
            rw [← HTT.out] at h3
            have HT3 := Lib.hid h3
            clear h3 own3 grow3 nil3
            go_wp2
            go_roundw
            case rel => exact ⟨t + 1, by omega, by go_num, HT3.out⟩
            case measure => simp [intOf]; omega
          · obtain rfl : t = k := by omega
            have ht0 := HT.out
            rw [List.take_of_length_le (by rw [← HL.out]; exact Nat.le_refl _)] at ht0
            have HT0 := Lib.hid ht0
            clear ht0 HT
            go_wp2
            go_loopw [12, 99] (fun a i wr3 => ∃ s : Nat, s ≤ m ∧ i = .int .i64 s ∧ One w2 wr3 a (L ++ ms.take s)) (fun _ i _ => m - (intOf i).toNat)
            case atStart => exact ⟨0, Nat.zero_le _, rfl, by simpa using HT0.out⟩
            case round =>
              obtain ⟨s, hs, rfl, hone⟩ := hrel
              have HT := Lib.hid hone
              clear hone
              by_cases hsm : s < m
              · obtain ⟨b0, off0, rfl, hb0, hA0⟩ := HS.out (by omega)
                obtain ⟨x, hx⟩ : ∃ x, x = ms.getD s 0 := ⟨_, rfl⟩
                have hlk : s < ms.length := by rw [← HM.out]; exact hsm
                have hxb : 0 ≤ x ∧ x ≤ 65535 := by
                  rw [hx, List.getD_eq_getElem?_getD, List.getElem?_eq_getElem hlk]
                  exact HML.out _ (List.getElem_mem _)
                have hcell : wr.cell? ⟨b0, off0 + s, none⟩ = some (.int .u16 x) := by
                  rw [hx]
                  exact ((HB2.out.trans (HT.out.2.2.mono HB2.out.size)).cell (p := ⟨b0, off0 + s, none⟩) hb0).trans (hA0.get hlk)
                have htk := take_snoc ms s hlk
                rw [← hx] at htk
                have htl : (L ++ ms.take s).length = t + s := by rw [List.length_append, List.length_take, ← HL.out]; omega
                have happ : L ++ ms.take (s + 1) = (L ++ ms.take s) ++ [x] := by rw [htk, List.append_assoc]
                have HAP := Lib.hid happ
                have hx1 := HT.out.1
                rw [htl] at hx1
                have HX1 := Lib.hid hx1
                have wx : IntKind.i64.wrap x = x := IntWalk.i64_in _ (by omega)
                clear htk happ hx hlk hx1 hA0
                go_wp2_with (at_builtin; refine wpList_append_own _ rfl _ _ 23 rfl w2.heap.size 3 j0 (.int .i64 0) 1 8 Tryd.underlying23 hj0 jz0 jz1 jz2 rfl (by decide) _ _ _ rfl (HX1.out.alloc _) ⟨wr.heap.size, 0, none⟩ 1 1 [.int .i64 x] rfl rfl (one_cell _ _ _) (one_ok _) ?c3 ?c4 ?c5 ?_)
                case c3 => unfold maxLen; omega
                case c4 => omega
                case c5 => have := HT.out.2.2.size; simp; omega
                intro v1 w3 own3 grow3 nil3
                have h3 := HT.out.step (x := x) (by rw [htl]; exact own3) grow3 (fun h => by first | exact nil3 h | exact HT.out.2.1 (nil3.1 h).1)
                rw [← HAP.out] at h3
                have HT3 := Lib.hid h3
                clear h3 own3 grow3 nil3
                go_wp2
                go_roundw
                case rel => exact ⟨s + 1, by omega, by go_num, HT3.out⟩
                case measure => simp [intOf]; omega
              · obtain rfl : s = m := by omega
                have ht0 := HT.out
                rw [List.take_of_length_le (by rw [← HM.out]; exact Nat.le_refl _)] at ht0
                obtain ⟨ha, na, hbel⟩ := ht0
                obtain ⟨ga, capa, rfl, hAa, hcapa, hga, hga'⟩ := own_open ha na
                obtain ⟨gs, hgs⟩ : ∃ gs, gs = L ++ ms := ⟨_, rfl⟩
                rw [← hgs] at hAa hcapa
                rw [← hgs]
                obtain ⟨q, hq⟩ : ∃ q, q = gs.length := ⟨_, rfl⟩
                have hq2 : q ≤ 200 := by rw [hq, hgs, List.length_append, ← HL.out, ← HM.out]; omega
                rw [← hq] at hcapa ⊢
                have hgsb : ∀ x ∈ gs, 0 ≤ x ∧ x ≤ 65535 := fun x hx => by
                  rw [hgs] at hx
                  rcases List.mem_append.1 hx with h | h
                  · exact HLB.out x h
                  · exact HML.out x h
                have HIM := Lib.hid (class_any g2 bl cap2' q capa (some ⟨ga, 0, none⟩) bs gs L true wr HASC.out (by rw [← HL.out]; omega) (by rw [← HL.out]; omega) HLB.out (fun h => by cases h) HCO.out HBL.out (HA2.out.below hbel (by exact hg2)) hq (by omega) (fun _ => ⟨ga, rfl, hga, hAa⟩) hgsb)
                have HAA := Lib.hid hAa
                have HBE := Lib.hid (HB2.out.trans (hbel.mono HB2.out.size))
                have HC3 := Lib.hid (HC2.out.below hbel HC2.out.lt)
                have HQ := Lib.hid hq
                have HGB := Lib.hid hgsb
                clear ha na hAa hgs hq hbel hgsb
                go_wp2_with fail
                refine HIM.out.mono ?_
                rintro e w5 ⟨⟨v5, rfl, ho5⟩, hb5⟩
                have HAA5 := Lib.hid (HAA.out.below hb5 hga)
                have HC5 := Lib.hid (HC3.out.below hb5 HC3.out.lt)
                have HB5 := Lib.hid (HBE.out.trans (hb5.mono HBE.out.size))
                clear hb5 HAA
                obtain ⟨A5, cm5, hv5, hs5⟩ : ∃ A5 cm5, v5 = .slice A5 q cm5 ∧ (0 < q → ∃ b, A5 = some ⟨b, 0, none⟩ ∧ At w5 b 0 (vals .i64 (gs.map (cls L)))) := by
                  by_cases hnil5 : v5 = .slice none 0 0
                  · have hq0 : q = 0 := by
                      rw [hnil5] at ho5
                      rcases ho5.2 with ⟨_, h⟩ | ⟨g, cap, cur, h, _⟩
                      · exact h
                      · cases h
                    exact ⟨none, 0, by rw [hnil5, hq0], fun h => absurd h (by omega)⟩
                  · obtain ⟨g5, cap5, h1, h2, _, _, _⟩ := own_open ho5 hnil5
                    exact ⟨_, cap5, h1, fun _ => ⟨g5, rfl, h2⟩⟩
                subst hv5
                have HS5 := Lib.hid hs5
                clear ho5 hs5
                go_wp2
                go_loopw [126] (fun i wr4 => ∃ j : Nat, j ≤ q ∧ i = .int .i64 j ∧ ∃ d, w5.drewN d = wr4) (fun i _ => q - (intOf i).toNat)
                case atStart => exact ⟨0, Nat.zero_le _, rfl, 0, rfl⟩
                case round =>
                  obtain ⟨j, hj, rfl, d, rfl⟩ := hrel
                  by_cases hjq : j < q
                  · have hlj : j < gs.length := by rw [← HQ.out]; exact hjq
                    obtain ⟨g5, rfl, hA5⟩ := HS5.out (by omega)
                    have d1 := hA5.get (j := j) (by rw [List.length_map]; exact hlj)
                    have d2 := HAA5.out.get hlj
                    rw [Nat.zero_add] at d1 d2
                    have hm0 : (gs.map (cls L)).getD j 0 = cls L (gs.getD j 0) := by
                      rw [List.getD_eq_getElem?_getD, List.getD_eq_getElem?_getD, List.getElem?_eq_getElem (by rw [List.length_map]; exact hlj), List.getElem?_eq_getElem hlj, List.getElem_map]
                      rfl
                    rw [hm0] at d1
                    have hxb : 0 ≤ gs.getD j 0 ∧ gs.getD j 0 ≤ 65535 := HGB.out _ (by rw [List.getD_eq_getElem?_getD, List.getElem?_eq_getElem hlj]; exact List.getElem_mem _)
                    have lk := fun N => ((HC5.out.below (below_draws (Below.refl w5.heap.size w5) N) HC5.out.lt).look (x := gs.getD j 0) (WalkArith.wf_i64 (by omega)))
                    obtain ⟨y, hy⟩ : ∃ y, y = cls L (gs.getD j 0) := ⟨_, rfl⟩
                    rw [← hy] at d1 lk
                    obtain ⟨x, hx⟩ : ∃ x, x = gs.getD j 0 := ⟨_, rfl⟩
                    rw [← hx] at d2 lk
                    have q5 : (j : Int) < (q : Int) := by omega
                    have q6 : (y != y) = false := by simp
                    clear hA5 hm0 hlj hy hx hxb
                    go_wp2
                    go_quiet (fail)
                    go_wp2
                    go_roundw
                    case rel => exact ⟨j + 1, by omega, by go_num, _, rfl⟩
                    case measure => simp [intOf]; omega
                  · have HB6 := Lib.hid (below_draws HB5.out d)
                    go_wp2
                    go_ret
                    exact ⟨rfl, HB6.out⟩

theorem src_of {k : IntKind} {w : World} {a : Option Addr} {n cap : Nat} {zs : List Int} (h : IsRow k w a n cap zs) (hn : 0 < n) : ∃ b off, a = some ⟨b, off, none⟩ ∧ b < w.heap.size ∧ At w b off (vals k (zs.take n)) := by
  have hr := Rd.of_ints h
  rcases a with _ | ⟨b, off, spot⟩
  · have := (hr.2.2 rfl).1
    omega
  · have hl := h.len
    obtain ⟨u, hu⟩ : ∃ u, (vals k (zs.take n))[0]? = some u := ⟨_, List.getElem?_eq_getElem (by rw [vals_len]; omega)⟩
    have hc := hr.2.1 _ rfl 0 u hu
    have hspot : spot = none := by simpa [Addr.add] using World.cell?_spot hc
    subst hspot
    refine ⟨b, off, rfl, World.block_lt_of_cell? w _ hc, fun j v hv => ?_⟩
    have := hr.2.1 _ rfl j v hv
    rwa [Addr.add_lit] at this

theorem row (a0 : Option Addr) (n cap0 : Nat) (zs : List Int) (ranges : Bool) (a2 : Option Addr) (m cap2 : Nat) (ys : List Int) (w : World) (w0 : IsRow .u16 w a0 n cap0 zs) (w2 : IsRow .u16 w a2 m cap2 ys) :
    Calls Tryd.prog 3 #[.slice a0 n cap0, .bool ranges, .slice a2 m cap2] w fun e w' => e = .returned (.bool true) ∧ Below w.heap.size w w' := by
  by_cases h1 : (2147483647 : Int) < (n : Int)
  · clear w0 w2
    go_enter Tryd.func3, Tryd.ntmps3
    go_wp2
    go_ret
    exact ⟨rfl, Below.refl _ _⟩
  by_cases h2 : (2147483647 : Int) < (m : Int)
  · clear w0 w2
    go_enter Tryd.func3, Tryd.ntmps3
    go_wp2
    go_ret
    exact ⟨rfl, Below.refl _ _⟩
  by_cases h0 : n = 0
  · subst h0
    clear w0 w2
    go_enter Tryd.func3, Tryd.ntmps3
    go_wp2
    go_ret
    exact ⟨rfl, Below.refl _ _⟩
  have e0 : ((n : Int) == 0) = false := by simp; omega
  by_cases h3 : (100 : Int) < (n : Int)
  · clear w0 w2
    go_enter Tryd.func3, Tryd.ntmps3
    go_wp2
    go_ret
    exact ⟨rfl, Below.refl _ _⟩
  by_cases h4 : (100 : Int) < (m : Int)
  · clear w0 w2
    go_enter Tryd.func3, Tryd.ntmps3
    go_wp2
    go_ret
    exact ⟨rfl, Below.refl _ _⟩
  exact walk a0 a2 n cap0 m cap2 (zs.take n) (ys.take m) ranges w w0.len.symm (by omega) (by omega) (fun y hy => bounds_u16 (w0.wf y hy)) w2.len.symm (by omega) (fun y hy => bounds_u16 (w2.wf y hy)) (src_of w0) (src_of w2)
end Go.Proofs.YtbpcmdgfgibbjaaDoor.FnClassW
