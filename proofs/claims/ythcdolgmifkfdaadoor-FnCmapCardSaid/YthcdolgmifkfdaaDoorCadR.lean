/- The making of a font: its letters are gathered. -/
import Derived.Test.YthcdolgmifkfdaaDoorCadQ
namespace Go.Proofs.YthcdolgmifkfdaaDoor.CadR
open Go.ChangeShapes Go.WideShapes Go.ChangeAt Go.RowKit Go.Maps
open Lst Mem RowG GlyM GlyN GlyO MadN CadL CadF CadG CadH CadI CadJ CadP CadQ
set_option linter.unusedSimpArgs false
set_option linter.unusedVariables false
variable {LV : Value} {fm : Int} {ps : List Pr}
/-- the letters that came in -/
def Ltr (w : World) (LV : Value) : Prop := ∃ (la : Option Addr) (ln lc : Nat) (ls : List Int), LV = .slice la ln lc ∧ ln = ls.length ∧ ln ≤ 1000 ∧ ln ≤ lc ∧ (∀ x ∈ ls, 0 ≤ x ∧ x ≤ 65535) ∧ (0 < ln → ∃ lb off, la = some ⟨lb, off, none⟩ ∧ lb < w.heap.size ∧ At w lb off (vals .u16 ls))
theorem look_same {ops : Array Oper} {rest : List Oper} {o : Oper} {a : Act} {w : World} {Q : Exit → Act → World → Prop} {m x : Operand} {b n : Nat} {D : Dm} {v g : Int} (hgd : o.guard = none) (ho : o.op = .lookup 55 m x false) (hm : a.eval m = .map (some b)) (hx : a.eval x = .int .i64 v)
    (hown : Own w b n (D.put (.int .i64 v) (.lit (.int .i64 g)))) (hD : IsMap D) (hwf : (Lit.int .i64 v).wf = true) (h : wpList Tryd.prog ops Q rest (a.put o.dst (.int .i64 g)) w) : wpList Tryd.prog ops Q (o :: rest) a w := by
  refine wpList_lookup_own_int w hgd m x 55 ho 3 3 .i64 keyI Tryd.underlying55 Tryd.underlying3 (zeroI _) b n _ hm hown _ _ hx (keyOf_int_mk Tryd.underlying3 hwf) (fun c hat hwc => ?_)
  have h2 := (atKey_put_same hD (show WideAt.IsKeyLit (.int .i64 v) from trivial) (.lit (.int .i64 g)) (.lit (.int .i64 0))).symm.trans hat
  injection h2 with h2
  injection h2 with _ h2
  rw [← h2]
  exact h
theorem put_size {D : Dm} (h : Tidy D) (k : Lit) (d : Dm) : Maps.size (D.put k d) ≤ Maps.size D + 1 := by
  rw [size_put h]
  split <;> omega
theorem put_twice {D : Dm} (h : Tidy D) (x : Int) (d e : Dm) : Maps.size ((D.put (.int .i64 x) d).put (.int .i64 x) e) ≤ Maps.size D + 1 := by
  have hk : WideAt.IsKeyLit (.int .i64 x) := trivial
  rw [size_put (h.put hk d), has_put_same h.isMap hk]
  exact put_size h _ d
set_option maxHeartbeats 60000000 in
set_option maxRecDepth 4000 in
theorem r8 (f : Int) (wa N : Nat) (GA A : Option Addr) (gc m cap mb : Nat) (ms : List Int) (Gs : List Gl) (cs : List Value) (w W : World) (a : Act) (c : Code) (hc : c = dropC 8 body) (ha : Fr LV f w.heap.size mb a) (hI : Inv fm [] w wa N GA gc Gs A m cap ms mb cs W) (h9 : cs[9]? = some (.slice none 0 0)) (hv : cs[8]? = some (.slice none 0 0)) (b : Nat) (h14 : a.tmps[14]? = some (.map (some b))) (hown : Own W b 0 (.map [])) (hbB : w.heap.size ≤ b) (hf : 0 ≤ f ∧ f ≤ 4294967295) (hLt : Ltr w LV) : Code.wp Tryd.prog c (EndsM fm w wa) a W := by
  rw [hc]
  conv in (dropC _ _) => whnf
  obtain ⟨S, he, hS⟩ := ha.open_
  have e14 := hS 14 _ h14
  clear h14
  subst he
  clear ha hc hS
  rw [e14]
  clear e14
  obtain ⟨la, ln, lc, ls, rfl, hll, hl1, hlc, hlr, hlh⟩ := hLt
  obtain ⟨M, hM40, hMl, hmin⟩ : ∃ M : Nat, M ≤ 40 ∧ M ≤ ln ∧ (if (40 : Int) < (ln : Int) then (40 : Int) else (ln : Int)) = (M : Int) := by
    by_cases h : (40 : Int) < (ln : Int)
    · exact ⟨40, by omega, by omega, if_pos h⟩
    · exact ⟨ln, by omega, by omega, if_neg h⟩
  have HI := Lib.hid (And.intro hI hown)
  have HL := Lib.hid (And.intro hll (And.intro hlr hlh))
  have HC := Lib.hid (And.intro h9 hv)
  have hN := hI.2.2.2.2.1
  have hN0 : 0 < N := hN.1
  have hN9 : N ≤ 9 := hN.2
  obtain ⟨_, _, _, _, hfm, _⟩ := hI.kc.2.2.2.2.2
  have HFM := Lib.hid hfm
  clear hI hown hll hlr hlh hN h9 hv hfm
  go_wp2
  go_loopw [141] (fun i wr => ∃ (k : Nat) (D : Dm), i = .int .i64 k ∧ k ≤ M ∧ Inv fm [] w wa N GA gc Gs A m cap ms mb cs wr ∧ Own wr b (2 * k) D ∧ Us fm D ∧ Tidy D ∧ Maps.size D ≤ k) (fun i _ => M - (intOf i).toNat)
  case atStart => exact ⟨0, .map [], rfl, Nat.zero_le _, HI.out.1, HI.out.2, us_nil _, tidy_empty, Nat.zero_le _⟩
  case round =>
    clear HI
    obtain ⟨k, D, rfl, hkM, hI, hown, hU, hT, hsz⟩ := hrel
    obtain ⟨W1, hW1⟩ : ∃ V, V = wr := ⟨_, rfl⟩
    subst hW1
    by_cases hlt : k < M
    · obtain ⟨lb, off, hla, hlb, hA⟩ := HL.out.2.2 (by omega)
      subst hla
      have hkl : k < ls.length := by rw [← HL.out.1]; omega
      have d1 := (hI.kc.2.2.2.2.1.cell (p := ⟨lb, off + k, none⟩) hlb).trans (hA.get (j := k) hkl)
      have hx0 := HL.out.2.1 _ (getD_mem ls k 0 hkl)
      obtain ⟨x, hx⟩ : ∃ x, x = ls.getD k 0 := ⟨_, rfl⟩
      rw [← hx] at d1 hx0
      clear hA hx hkl hlb
      have wx : IntKind.i64.wrap x = x := IntWalk.i64_in _ (by omega)
      obtain ⟨v0, e0⟩ : ∃ v0 : Nat, x.tmod 65520 = (v0 : Int) := ⟨(x.tmod 65520).toNat, by have := Int.tmod_nonneg (a := x) 65520 (by omega); omega⟩
      have hv0 : v0 < 65520 := by have := Int.tmod_lt_of_pos x (b := 65520) (by omega); omega
      have w0 : IntKind.i64.wrap (v0 : Int) = v0 := IntWalk.i64_in _ (by omega)
      obtain ⟨PV, c6', _⟩ := hI.kc.2.2.2.2.2
      have c6 := hI.cell c6'
      clear c6'
      have c1 := hI.cell1
      have wf1 : IntKind.i64.wrap (f / 65536) = f / 65536 := IntWalk.i64_in _ (by omega)
      have wf2 : IntKind.i64.wrap ((k : Int) + f / 65536) = (k : Int) + f / 65536 := IntWalk.i64_in _ (by omega)
      obtain ⟨q, hq⟩ : ∃ q : Nat, ((k : Int) + f / 65536).tmod (N : Int) = (q : Int) := ⟨(((k : Int) + f / 65536).tmod (N : Int)).toNat, by have := Int.tmod_nonneg (a := (k : Int) + f / 65536) (N : Int) (by omega); omega⟩
      have hqN : q < N := by have := Int.tmod_lt_of_pos ((k : Int) + f / 65536) (b := (N : Int)) (by omega); omega
      have wq1 : IntKind.i64.wrap (q : Int) = (q : Int) := IntWalk.i64_in _ (by omega)
      have wq2 : IntKind.i64.wrap (1 + (q : Int)) = 1 + (q : Int) := IntWalk.i64_in _ (by omega)
      have hn1 : ¬ (N = 0) := by omega
      have hn3 : ((N : Int) == 0) = false := by simp; omega
      have HR := Lib.hid (And.intro hI (And.intro hown (And.intro hU (And.intro hT hsz))))
      have HLT := Lib.hid hlt
      clear hI hown hU hT hsz
      go_upto_block 6 with (fail)
      go_cut [17] from 142 to 195 (fun s17 wx => ∃ v : Int, s17 = .int .i64 v ∧ KeyOk fm v ∧ W1 = wx)
      case first =>
        rcases HFM.out with rfl | rfl | rfl | rfl
        · go_wp2
          go_meet
          exact ⟨v0, rfl, .inr (.inr (.inr ⟨rfl, by omega⟩)), rfl⟩
        · have w12 : IntKind.i64.wrap ((v0 : Int) * 16) = (v0 : Int) * 16 := IntWalk.i64_in _ (by omega)
          go_wp2
          go_meet
          exact ⟨(v0 : Int) * 16, rfl, .inr (.inr (.inl ⟨rfl, by omega, by omega, ⟨v0, by omega⟩⟩)), rfl⟩
        · obtain ⟨v1, e1⟩ : ∃ v1 : Nat, (v0 : Int).tmod 90 = (v1 : Int) := ⟨v0 % 90, by exact Int.ofNat_tmod v0 90⟩
          have hv1 : (v1 : Int) < 90 := by have := Int.tmod_lt_of_pos (v0 : Int) (b := 90) (by omega); omega
          have w1 : IntKind.i64.wrap (v1 : Int) = v1 := IntWalk.i64_in _ (by omega)
          have w2 : IntKind.i64.wrap (200 + (v1 : Int)) = 200 + (v1 : Int) := IntWalk.i64_in _ (by omega)
          go_wp2
          go_meet
          exact ⟨200 + (v1 : Int), rfl, .inr (.inl ⟨rfl, by omega, by omega⟩), rfl⟩
        · obtain ⟨v1, e1⟩ : ∃ v1 : Nat, (v0 : Int).tmod 127 = (v1 : Int) := ⟨v0 % 127, by exact Int.ofNat_tmod v0 127⟩
          have hv1 : (v1 : Int) < 127 := by have := Int.tmod_lt_of_pos (v0 : Int) (b := 127) (by omega); omega
          have w1 : IntKind.i64.wrap (v1 : Int) = v1 := IntWalk.i64_in _ (by omega)
          go_wp2
          go_meet
          exact ⟨(v1 : Int), rfl, .inl ⟨rfl, by omega, by omega⟩, rfl⟩
      case rest =>
        obtain ⟨v, rfl, hkv, hwc⟩ := hcut
        subst hwc
        have hvb := key_bd hkv
        have hwf : (Lit.int .i64 v).wf = true := WalkArith.wf_i64 (by omega)
        have hkey := keyOf_int_mk (q := .i64) (a := v) Tryd.underlying3 hwf
        have HKV := Lib.hid hkv
        have hd0 : decide (v > 1114111) = false := by simp; omega
        clear hkv d1 wx e0 c6
        by_cases hs : 55296 ≤ v ∧ v < 57344
        · have hd1 : decide (v ≥ 55296) = true := by simp; omega
          have hd2 : decide (v < 57344) = true := by simp; omega
          clear hs
          go_wp2
          go_roundw
          case rel => exact ⟨k + 1, D, by go_num, HLT.out, HR.out.1, World.ownsMap.mono HR.out.2.1 (by omega), HR.out.2.2.1, HR.out.2.2.2.1, by have := HR.out.2.2.2.2; omega⟩
          case measure => have := HLT.out; simp [intOf]; omega
        · rcases (show (decide (v ≥ 55296) = false ∧ True) ∨ (decide (v ≥ 55296) = true ∧ decide (v < 57344) = false) by simp; omega) with ⟨hd1, hd2⟩ | ⟨hd1, hd2⟩ <;> (
            clear hs
            by_cases hqn : 1 + (q : Int) = (N : Int)
            · have hd3 : decide (1 + (q : Int) ≥ (N : Int)) = true := by simp; omega
              clear hqn
              have hT1 := HR.out.2.2.2.1.put (show WideAt.IsKeyLit (.int .i64 v) from trivial) (.lit (.int .i64 (1 + (q : Int))))
              go_wp2_with (first | (at_mapUpdate; refine wpList_mapUpdate_own _ rfl _ _ _ 55 rfl 3 3 keyI Tryd.underlying55 _ b (2 * k) _ rfl HR.out.2.1 (by unfold maxLen; omega) _ _ _ rfl rfl hkey _ [] (plainElem_int Tryd.underlying3 (WalkArith.wf_i64 (by omega))) ?_; intro x1 hownx1 hgrowx1; have hIx1 := inv_map HR.out.1 HR.out.2.1 hgrowx1 hbB; have c1x1 := hIx1.cell1) | (at_mapUpdate; refine wpList_mapUpdate_own _ rfl _ _ _ 55 rfl 3 3 keyI Tryd.underlying55 _ b (2 * k + 1) _ rfl hownx1 (by unfold maxLen; omega) _ _ _ rfl rfl hkey _ [] (plainElem_int Tryd.underlying3 (WalkArith.wf_i64 (by omega))) ?_; intro x2 hownx2 hgrowx2; have hIx2 := inv_map hIx1 hownx1 hgrowx2 hbB; have c1x2 := hIx2.cell1) | (at_lookup; refine look_same (g := 1 + (q : Int)) rfl rfl rfl rfl hownx1 HR.out.2.2.2.1.isMap hwf ?_) | fail)
              go_roundw
              case rel => exact ⟨k + 1, _, by go_num, HLT.out, hIx2, World.ownsMap.mono hownx2 (by omega), (HR.out.2.2.1.put HR.out.2.2.2.1.isMap HKV.out (by omega)).put hT1.isMap HKV.out (by omega), hT1.put (show WideAt.IsKeyLit (.int .i64 v) from trivial) _, by have := put_twice HR.out.2.2.2.1 v (.lit (.int .i64 (1 + (q : Int)))) (.lit (.int .i64 0)); have := HR.out.2.2.2.2; omega⟩
              case measure => have := HLT.out; simp [intOf]; omega
            · have hd3 : decide (1 + (q : Int) ≥ (N : Int)) = false := by simp; omega
              go_wp2_with (first | (at_mapUpdate; refine wpList_mapUpdate_own _ rfl _ _ _ 55 rfl 3 3 keyI Tryd.underlying55 _ b (2 * k) _ rfl HR.out.2.1 (by unfold maxLen; omega) _ _ _ rfl rfl hkey _ [] (plainElem_int Tryd.underlying3 (WalkArith.wf_i64 (by omega))) ?_; intro x1 hownx1 hgrowx1; have hIx1 := inv_map HR.out.1 HR.out.2.1 hgrowx1 hbB; have c1x1 := hIx1.cell1) | (at_lookup; refine look_same (g := 1 + (q : Int)) rfl rfl rfl rfl hownx1 HR.out.2.2.2.1.isMap hwf ?_) | fail)
              go_roundw
              case rel => exact ⟨k + 1, _, by go_num, HLT.out, hIx1, World.ownsMap.mono hownx1 (by omega), HR.out.2.2.1.put HR.out.2.2.2.1.isMap HKV.out (by omega), HR.out.2.2.2.1.put (show WideAt.IsKeyLit (.int .i64 v) from trivial) _, by have := put_size HR.out.2.2.2.1 (.int .i64 v) (.lit (.int .i64 (1 + (q : Int)))); have := HR.out.2.2.2.2; omega⟩
              case measure => have := HLT.out; simp [intOf]; omega)
    · obtain rfl : M = k := by omega
      repeat (first | (refine r9 (ps := []) f wa N GA A gc m cap mb ms Gs _ w _ _ _ (by kernel_rfl) (by exact ⟨rfl, rfl, rfl, rfl, rfl, rfl, rfl⟩) hI HC.out.1 HC.out.2 b (2 * M) D rfl hown ⟨hU, hT, ⟨HFM.out, Nat.zero_le _, (fun p hp => by cases hp), List.Pairwise.nil⟩, (fun p hp => by cases hp), (by simp; omega)⟩ hbB hf) | go_values | go_skip | go_guarded | go_step | go_upon | go_back | go_simp)
end Go.Proofs.YthcdolgmifkfdaaDoor.CadR
