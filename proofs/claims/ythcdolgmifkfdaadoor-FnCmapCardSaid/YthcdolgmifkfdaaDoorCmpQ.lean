/- Contract of the look-ups by a table of letters: format 4. -/
import Derived.Test.YthcdolgmifkfdaaDoorCmpO
namespace Go.Proofs.YthcdolgmifkfdaaDoor.CmpQ
open Go.ChangeShapes Go.WideShapes Go.ChangeAt Go.RowKit
open Lst Mem RowG SpecB GlyM CadL FourB View VewZ CmpC CmpM CmpN
set_option linter.unusedSimpArgs false
set_option linter.unusedVariables false
abbrev BT : TypeId := 134
noncomputable def bz : Array Value := match (Tryd.prog.info? BT).bind (·.zero) with
  | some (.agg cs) => cs
  | _ => #[]
theorem bz_run (w : World) : (zeroValue BT).run Tryd.prog w = .ok (.agg bz) w := by kernel_rfl
theorem bz0 : bz[0]? = some (.slice none 0 0) := by kernel_rfl
/-- a run of letters: the last, the first, what is added, where glyphs stand -/
abbrev Sg4 := Int × Int × Int × Int
def ec (q : Sg4) : List Value := [.int .u16 q.1, .int .u16 q.2.1, .int .u16 q.2.2.1, .int .u16 q.2.2.2]
theorem ec_len (q : Sg4) : (ec q).length = 4 := rfl
def d4 : Sg4 := (0, 0, 0, 0)
structure Ok4 (SG : List Sg4) : Prop where
  rng : ∀ q ∈ SG, (0 ≤ q.1 ∧ q.1 ≤ 65535) ∧ (0 ≤ q.2.1 ∧ q.2.1 ≤ 65535) ∧ (0 ≤ q.2.2.1 ∧ q.2.2.1 ≤ 65535) ∧ (0 ≤ q.2.2.2 ∧ q.2.2.2 ≤ 65535)
  one : ∀ q ∈ SG, q.2.1 ≤ q.1
  asc : ∀ i j, i < j → j < SG.length → (SG.getD i d4).1 < (SG.getD j d4).2.1
/-- what a letter's run says of it -/
def Sem4 (SG : List Sg4) (gl : List Int) (r v : Int) : Prop :=
  (∃ h, h < SG.length ∧ (SG.getD h d4).2.1 ≤ r ∧ r ≤ (SG.getD h d4).1 ∧ (((SG.getD h d4).2.2.2 = 0 ∧ v = (r + (SG.getD h d4).2.2.1) % 65536) ∨
    ((SG.getD h d4).2.2.2 ≠ 0 ∧ ∃ t : Nat, t < gl.length ∧ (SG.getD h d4).2.2.2 + 2 * ((h : Int) - SG.length + (r - (SG.getD h d4).2.1)) = 2 * (t : Int) ∧ v = gl.getD t 0))) ∨
  ((∀ h, h < SG.length → r < (SG.getD h d4).2.1 ∨ (SG.getD h d4).1 < r) ∧ v = 0)
theorem u16_wrap (x : Int) : IntKind.u16.wrap x = x % 65536 := by rw [IntKind.wrap_u16]
theorem u32_wrap (x : Int) : IntKind.u32.wrap x = x % 4294967296 := by rw [IntKind.wrap_u32]
/-- the place in the glyphs -/
theorem place_wrap {o r s T : Int} {h n : Nat} (ho : 0 ≤ o ∧ o ≤ 65535) (hT : o + 2 * ((h : Int) - n + (r - s)) = T) (hb : 0 ≤ T ∧ T ≤ 200000) : IntKind.u32.wrap (o + IntKind.u32.wrap (2 * IntKind.u32.wrap ((h : Int) - n + (r - s)))) = T := by
  rw [u32_wrap, u32_wrap, u32_wrap]
  omega
set_option maxHeartbeats 4000000 in
set_option maxRecDepth 4000 in
theorem cl4 (fb eb lb bb g N c ib m cc : Nat) (A : Option Addr) (SG : List Sg4) (gl : List Int) (r v : Int) (w : World) (hF : Fc fb g N c w) (hr : 0 ≤ r ∧ r ≤ 1114111) (hn : m = SG.length) (hn2 : m ≤ 100) (hok : Ok4 SG) (h1 : w.cell? ⟨eb, 0, none⟩ = some (.slice A m cc)) (hA : 0 < m → ∃ g', A = some ⟨g', 0, none⟩ ∧ At w g' 0 (SG.flatMap ec))
    (hlb : w.cell? ⟨lb, 0, none⟩ = some (.int .u32 ((2 * gl.length : Nat) : Int))) (hbb : w.cell? ⟨bb, 0, none⟩ = some (.int .u32 (ib : Int))) (hg : At w g ib (vals .u8 (words gl))) (hgl : gl.length ≤ 1000) (hgb : ∀ x ∈ gl, 0 ≤ x ∧ x ≤ 65535) (hN : ib + 2 * gl.length ≤ N) (hib : ib ≤ 60000) (hNc : N ≤ c) (hN2 : N ≤ 100000)
    (hv : if r ≤ 65535 then Sem4 SG gl r v else v = 0) :
    Calls Tryd.prog 28 #[.pointer (some ⟨fb, 0, none⟩), .pointer none, .int .i32 r, .pointer (some ⟨eb, 0, none⟩), .pointer (some ⟨lb, 0, none⟩), .pointer (some ⟨bb, 0, none⟩)] w (Ans v w) := by
  have w1 : IntKind.u32.wrap r = r := IntWalk.u32_in _ (by omega)
  by_cases hr2 : r ≤ 65535
  · rw [if_pos hr2] at hv
    have k0 : ¬ ((65535 : Int) < r) := by omega
    have w2 : IntKind.u16.wrap r = r := IntWalk.u16_in _ (by omega)
    have HN := Lib.hid hn
    have HA := Lib.hid hA
    have HP := Lib.hid hok
    have HV := Lib.hid hv
    have HG := Lib.hid (And.intro hg (And.intro hgl (And.intro hgb hN)))
    have HF := Lib.hid hF
    have HL := Lib.hid (And.intro hlb hbb)
    clear hn hA hok hv hg hgl hgb hN hF hlb hbb
    go_enter Tryd.func28, Tryd.ntmps28
    go_wp2_with fail
    go_quiet (fail)
    go_wp2
    go_loopw [1, 12, 13] (fun z a b wr => ∃ (i j mm : Nat), z = .pointer none ∧ a = .int .i64 i ∧ b = .int .i64 j ∧ i ≤ j ∧ j ≤ m ∧ w.drewN mm = wr ∧ (∀ t, t < i → (SG.getD t d4).1 < r) ∧ (∀ t, j ≤ t → t < m → r < (SG.getD t d4).2.1)) (fun _ a b _ => (intOf b).toNat - (intOf a).toNat)
    case atStart => exact ⟨0, m, _, rfl, rfl, rfl, Nat.zero_le _, Nat.le_refl _, rfl, fun t ht => by omega, fun t h h2 => by omega⟩
    case round =>
      obtain ⟨i, j, mm, rfl, rfl, rfl, hij, hjn, hwr, hlo, hhi⟩ := hrel
      have h1m : wr.cell? ⟨eb, 0, none⟩ = some (.slice A m cc) := by rw [← hwr]; exact h1
      have hbw : Below w.heap.size w wr := by rw [← hwr]; exact below_draws (Below.refl _ _) _
      by_cases hlt : i < j
      · obtain ⟨g', hAe, hA2⟩ := HA.out (by omega)
        subst hAe
        have hA : At wr g' 0 (SG.flatMap ec) := by rw [← hwr]; exact hA2
        obtain ⟨d, hd⟩ : ∃ d : Nat, (j : Int) - (i : Int) = (d : Int) := ⟨j - i, by omega⟩
        obtain ⟨d2, hd2⟩ : ∃ d2 : Nat, (d : Int).tdiv 2 = (d2 : Int) := ⟨d / 2, Int.ofNat_tdiv d 2⟩
        have hd3 : d2 = d / 2 := by have h2 : ((d / 2 : Nat) : Int) = (d : Int).tdiv 2 := Int.ofNat_tdiv d 2; rw [hd2] at h2; omega
        obtain ⟨h, hh⟩ : ∃ h : Nat, (i : Int) + (d2 : Int) = (h : Int) := ⟨i + d2, by omega⟩
        have hhn : h < m := by omega
        have hih : i ≤ h := by omega
        have hhj : h < j := by omega
        clear hd3
        have e1 : IntKind.i64.wrap (d : Int) = (d : Int) := IntWalk.i64_in _ (by omega)
        have e3 : IntKind.i64.wrap (d2 : Int) = (d2 : Int) := IntWalk.i64_in _ (by omega)
        have e4 : IntKind.i64.wrap (h : Int) = (h : Int) := IntWalk.i64_in _ (by omega)
        have e5 : IntKind.i64.wrap ((h : Int) + 1) = ((h + 1 : Nat) : Int) := by rw [IntWalk.i64_in _ (by omega)]; rfl
        have hhl : h < SG.length := by rw [← HN.out]; exact hhn
        have c0 := RowG.at_flat ec_len d4 hA hhl (r := 0) (by omega) rfl
        have c1 := RowG.at_flat ec_len d4 hA hhl (r := 1) (by omega) rfl
        have c2 := RowG.at_flat ec_len d4 hA hhl (r := 2) (by omega) rfl
        have c3 := RowG.at_flat ec_len d4 hA hhl (r := 3) (by omega) rfl
        rw [Nat.mul_comm 4 h] at c0 c1 c2 c3
        have hp := HP.out.rng _ (getD_mem SG h d4 hhl)
        have hse := HP.out.one _ (getD_mem SG h d4 hhl)
        obtain ⟨p, hp0⟩ : ∃ p, SG.getD h d4 = p := ⟨_, rfl⟩
        obtain ⟨e, s, dl, o⟩ := p
        rw [hp0] at c0 c1 c2 c3 hp hse
        simp only at c0 c1 c2 c3 hp hse
        have c0 : wr.cell? ⟨g', h * 4, none⟩ = some (.int .u16 e) := c0
        have HX := Lib.hid (And.intro hlo (And.intro hhi (And.intro hp0 hbw)))
        clear hlo hhi hA hA2 hbw
        by_cases hrx : r < s
        · have k1 : decide (r < s) = true := by simp; omega
          clear c0 c2 c3
          go_wp2
          go_roundw
          case rel =>
            refine ⟨i, h, _, rfl, rfl, rfl, hih, by omega, hwr, HX.out.1, fun t ht htn => ?_⟩
            rcases Nat.eq_or_lt_of_le ht with rfl | ht
            · rw [HX.out.2.2.1]; exact hrx
            · have h5 := HP.out.asc h t ht (by rw [← HN.out]; exact htn)
              rw [HX.out.2.2.1] at h5
              exact Int.lt_of_lt_of_le (Int.lt_of_lt_of_le hrx hse) (Int.le_of_lt h5)
          case measure => simp [intOf]; omega
        · by_cases hxr : e < r
          · have k1 : decide (r < s) = false := by simp; omega
            have k2 : decide (e < r) = true := by simp; omega
            clear c2 c3
            go_wp2
            go_roundw
            case rel =>
              refine ⟨h + 1, j, _, rfl, by go_num, rfl, by omega, hjn, hwr, fun t ht => ?_, HX.out.2.1⟩
              rcases Nat.eq_or_lt_of_le (Nat.le_of_lt_succ ht) with rfl | ht
              · rw [HX.out.2.2.1]; exact hxr
              · have h5 := HP.out.asc t h ht hhl
                rw [HX.out.2.2.1] at h5
                exact Int.lt_trans (Int.lt_of_lt_of_le h5 hse) hxr
            case measure => simp [intOf]; omega
          · have k1 : decide (r < s) = false := by simp; omega
            have k2 : decide (e < r) = false := by simp; omega
            -- the run that holds the letter
            have hsem : (o = 0 ∧ v = (r + dl) % 65536) ∨ (o ≠ 0 ∧ ∃ t : Nat, t < gl.length ∧ o + 2 * ((h : Int) - SG.length + (r - s)) = 2 * (t : Int) ∧ v = gl.getD t 0) := by
              rcases HV.out with ⟨h', hl', h1', h2', h3'⟩ | ⟨hno, _⟩
              · obtain rfl : h' = h := by
                  rcases Nat.lt_trichotomy h' h with hlt' | rfl | hlt'
                  · have h5 := HP.out.asc h' h hlt' hhl
                    rw [HX.out.2.2.1] at h5
                    simp only at h5
                    omega
                  · rfl
                  · have h5 := HP.out.asc h h' hlt' hl'
                    rw [HX.out.2.2.1] at h5
                    simp only at h5
                    omega
                rw [HX.out.2.2.1] at h3'
                exact h3'
              · have h5 := hno h hhl
                rw [HX.out.2.2.1] at h5
                simp only at h5
                omega
            by_cases ho : o = 0
            · have hv2 : v = (r + dl) % 65536 := by rcases hsem with h5 | h5; exact h5.2; exact absurd ho h5.1
              have k3 : (o == 0) = true := by simp [ho]
              have k4 : IntKind.u16.wrap (r + dl) = v := by rw [u16_wrap, hv2]
              clear hsem hv2 ho
              go_wp2
              go_ret2
              exact ⟨rfl, HX.out.2.2.2⟩
            · obtain ⟨t, htl, hT, hv2⟩ : ∃ t : Nat, t < gl.length ∧ o + 2 * ((h : Int) - SG.length + (r - s)) = 2 * (t : Int) ∧ v = gl.getD t 0 := by rcases hsem with h5 | h5; exact absurd h5.1 ho; exact h5.2
              have k3 : (o == 0) = false := by simp [ho]
              have hTn : o + 2 * ((h : Int) - (m : Int) + (r - s)) = 2 * (t : Int) := by rw [HN.out]; exact hT
              have hrs : 0 ≤ r - s ∧ r - s ≤ 65535 := by omega
              have a1 : IntKind.i64.wrap ((h : Int) - (m : Int)) = (h : Int) - (m : Int) := IntWalk.i64_in _ (by omega)
              have a2 : IntKind.u16.wrap (r - s) = r - s := IntWalk.u16_in _ (by omega)
              have a3 : IntKind.i64.wrap (r - s) = r - s := IntWalk.i64_in _ (by omega)
              have a4 : IntKind.i64.wrap ((h : Int) - (m : Int) + (r - s)) = (h : Int) - (m : Int) + (r - s) := IntWalk.i64_in _ (by omega)
              have a5 : IntKind.u32.wrap o = o := IntWalk.u32_in _ (by omega)
              have htl2 : t < 1000 := by have := HG.out.2.1; omega
              obtain ⟨tt, htt⟩ : ∃ tt : Nat, 2 * (t : Int) = (tt : Int) := ⟨2 * t, by omega⟩
              obtain ⟨q, hq⟩ : ∃ q : Nat, (ib : Int) + (tt : Int) = (q : Int) := ⟨ib + tt, by omega⟩
              obtain ⟨G2, hG2⟩ : ∃ G2 : Nat, G2 = 2 * gl.length := ⟨_, rfl⟩
              rw [htt] at hTn
              have a6 := place_wrap hp.2.2.2 hTn (by omega)
              have a6' : (o + 2 * (((h : Int) - (m : Int) + (r - s)) % 4294967296)) % 4294967296 = (tt : Int) := by omega
              have a7 : IntKind.u32.wrap (q : Int) = (q : Int) := IntWalk.u32_in _ (by omega)
              have a8 : IntKind.i64.wrap (q : Int) = (q : Int) := IntWalk.i64_in _ (by omega)
              have a9 : IntKind.u32.wrap ((tt : Int) + 2) = (tt : Int) + 2 := IntWalk.u32_in _ (by omega)
              have b1 : ¬ ((G2 : Int) < (tt : Int)) := by omega
              have b2 : ¬ ((G2 : Int) < (tt : Int) + 2) := by omega
              have hqN : q + 2 ≤ N := by have := HG.out.2.2.2; omega
              have hqi : q = ib + 2 * t := by omega
              have HX2 := Lib.hid (And.intro hv2 htl)
              clear hsem hv2 htl hT
              go_wp2_with fail
              go_quiet (fail)
              obtain ⟨X, hX⟩ : ∃ X, X = wr.drewN nq := ⟨_, rfl⟩
              have hbX : Below w.heap.size w X := by rw [hX]; exact below_draws HX.out.2.2.2 _
              rw [← hX]
              have hFX := HF.out.below hbX
              have l1 : X.cell? ⟨lb, 0, none⟩ = some (.int .u32 (G2 : Int)) := by rw [hG2]; exact (hbX.cell (p := ⟨lb, 0, none⟩) (World.block_lt_of_cell? w _ HL.out.1)).trans HL.out.1
              have l2 : X.cell? ⟨bb, 0, none⟩ = some (.int .u32 (ib : Int)) := (hbX.cell (p := ⟨bb, 0, none⟩) (World.block_lt_of_cell? w _ HL.out.2)).trans HL.out.2
              have hB4 := Blk.new_ X bz 134
              have hb4 := bel_made X bz 134
              obtain ⟨Y, hY⟩ : ∃ Y, Y = X.alloc (.cells bz 134) := ⟨_, rfl⟩
              rw [← hY] at hB4 hb4
              have hbY : Below w.heap.size w Y := hbX.trans (hb4.mono hbX.size)
              have hbuf := hB4.cell (i := 0) (u := .slice none 0 0) (by simpa using bz0)
              have hFY := hFX.below hb4
              have m2 : Y.cell? ⟨bb, 0, none⟩ = some (.int .u32 (ib : Int)) := (hb4.cell (p := ⟨bb, 0, none⟩) (World.block_lt_of_cell? X _ l2)).trans l2
              have HVW := Lib.hid (fun k => bview_any fb X.heap.size g N c q 2 (.slice none 0 0) (Y.drewN k) hbuf (hFY.draws k).src hqN hNc (by omega))
              rw [show vat q 2 c = q from by simp [vat]] at HVW
              have HYB := Lib.hid (And.intro hbY (And.intro hG2 hqi))
              have hbz := bz_run
              clear hX hbX hFX hB4 hb4 hbY hbuf hFY c0 c1 c2 c3 hG2 hqi
              go_wp2_with fail
              rw [← hY]
              clear hY l1 l2
              go_quiet ((go_at_call 29; exact quiet_same (HVW.out _)))
              obtain ⟨Z, hZ⟩ : ∃ Z, Z = Y.drewN nq := ⟨_, rfl⟩
              have hbZ : Below w.heap.size w Z := by rw [hZ]; exact below_draws HYB.out.1 _
              rw [← hZ]
              have hAZ : At Z g ib (vals .u8 (words gl)) := fun j u hu => by
                have h5 := HG.out.1 j u hu
                exact (hbZ.cell (p := ⟨g, ib + j, none⟩) (World.block_lt_of_cell? w _ h5)).trans h5
              have HU := Lib.hid (u16G (a := q) (n := 2) (c := c - q) hAZ HYB.out.2.2 (i := t) HX2.out.2 HX2.out.1.symm (by rw [HX2.out.1]; exact HG.out.2.2.1 _ (getD_mem gl t 0 HX2.out.2)) (by omega))
              have HBZ := Lib.hid hbZ
              clear hZ hbZ hAZ
              go_wp2_with fail
              refine HU.out.mono ?_
              rintro e5 W5 ⟨rfl, rfl⟩
              go_wp2_with fail
              go_ret2
              exact ⟨rfl, Below.drew HBZ.out⟩
      · obtain rfl : i = j := by omega
        have hv2 : v = 0 := by
          rcases HV.out with ⟨h', hl', h1', h2', h3'⟩ | ⟨_, h⟩
          · rw [← HN.out] at hl'
            rcases Nat.lt_or_ge h' i with h5 | h5
            · have := hlo h' h5; omega
            · have := hhi h' h5 hl'; omega
          · exact h
        subst hv2
        have HX := Lib.hid hbw
        clear hlo hhi hbw
        go_wp2
        go_ret2
        exact ⟨rfl, HX.out⟩
  · rw [if_neg hr2] at hv
    subst hv
    have k0 : (65535 : Int) < r := by omega
    clear hA hok hg hgb hF hlb hbb
    go_enter Tryd.func28, Tryd.ntmps28
    go_wp2_with fail
    go_ret2
    exact ⟨rfl, Below.refl _ _⟩
end Go.Proofs.YthcdolgmifkfdaaDoor.CmpQ
