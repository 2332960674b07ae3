/- Letters' glyphs by a subtable that stands at a place: the walk of the statement's text. -/
import Derived.Test.YthcdolgmifkfdaaDoorCmpE
import Derived.Test.YthcdolgmifkfdaaDoorTail
import Derived.Deep.CutBlock
import Derived.Deep.CutRange
namespace Go.Proofs.YthcdolgmifkfdaaDoor.FnCmapW
open Go.ChangeShapes Go.WideShapes Go.ChangeAt Go.RowKit
open Lst Mem RowG SpecB SfntB GlyM GlyN GlyO MadN CadL CadF CmpL CmpC CmpS CmpT CmpU CmpV CmpX CmpD CmpE
set_option linter.unusedSimpArgs false
set_option linter.unusedVariables false
theorem ask_bd {fm r : Int} (h : CmpD.Ask fm r) : 0 ≤ r ∧ r ≤ 1114111 := h.1
theorem key_ask {fm x : Int} (h : KeyOk fm x) : CmpD.Ask fm x := by
  rcases h with ⟨rfl, h1, h2⟩ | ⟨rfl, h1, h2⟩ | ⟨rfl, h1, h2, _⟩ | ⟨rfl, h1, h2⟩ <;> exact ⟨by omega, by omega, by omega⟩
set_option maxHeartbeats 32000000 in
set_option maxRecDepth 4000 in
theorem walk (f : Int) (SA LA AA MA : Option Addr) (l lc ln lnc na ca q qc : Nat) (ss az ms : List Int) (w : World) (hf : 0 ≤ f ∧ f ≤ 4294967295) (hl : l = ss.length) (hl2 : l ≤ 100) (hlc : l ≤ lc) (hsr : ∀ x ∈ ss, 0 ≤ x ∧ x ≤ 4294967295) (hsh : 0 < l → ∃ b off, SA = some ⟨b, off, none⟩ ∧ b < w.heap.size ∧ At w b off (vals .u32 ss))
    (hLt : CadR.Ltr w (.slice LA ln lnc)) (hln : ln ≤ 1000) (hna : Rd w AA na ca (vals .u8 az)) (hna2 : na ≤ 100) (hq : q = ms.length) (hq2 : q ≤ 100) (hmr : ∀ x ∈ ms, 0 ≤ x ∧ x ≤ 4294967295) (hmm : 0 < q → ∃ b off, MA = some ⟨b, off, none⟩ ∧ b < w.heap.size ∧ At w b off (vals .u32 ms)) :
    Calls Tryd.prog 3 #[.int .u32 f, .slice SA l lc, .slice LA ln lnc, .slice AA na ca, .slice MA q qc] w fun e w' => e = .returned (.bool true) ∧ Below w.heap.size w w' := by
  obtain ⟨wa, hwa⟩ : ∃ wa : Nat, (f / 64).tmod 4 = (wa : Int) := ⟨((f / 64).tmod 4).toNat, by have := Int.tmod_nonneg (a := f / 64) 4 (by omega); omega⟩
  have HM := Lib.hid (CadB.made_any f SA none l lc 0 0 ss [] w hf hl hl2 hlc hsr hsh ⟨rfl, by decide, (fun x h => by cases h), (fun h => absurd h (by decide))⟩ wa hwa hLt)
  have hfew := few_any SA LA l lc ln lnc w
  rw [decide_eq_true (show l ≤ 100 ∧ ln ≤ 1000 from ⟨hl2, hln⟩)] at hfew
  have HFW := Lib.hid hfew
  have HNA := Lib.hid hna
  have HMO := Lib.hid (And.intro hq (And.intro hmr hmm))
  have hasl : na = az.length := by have := hna.1; rw [vals_len] at this; exact this.symm
  have HAL := Lib.hid hasl
  clear hl hlc hsr hsh hLt hwa hf hfew hna hq hmr hmm hasl
  go_enter Tryd.func3, Tryd.ntmps3
  go_wp2_with fail
  refine HFW.out.mono ?_
  rintro e w1 ⟨rfl, rfl⟩
  go_wp2_with fail
  refine HM.out.mono ?_
  rintro e W1 ⟨fm, cs, Gs, GA, gc, rfl, hlen, hc1, hc27, hN0, hN9, hGs, hgl, hbel, hone, ps, PV, hc6, hc5, hPV, hok⟩
  dsimp only
  repeat (first | ((with_reducible refine Gate.alloc (t := 36) ?_); refine al_any rfl rfl (made_zero _) ?_; intro Z2 hZ2; have hz : Blk W1.heap.size 36 mz Z2 := by (rw [← hZ2]; exact Blk.new_ W1 mz.toArray 36)) | ((with_reducible refine Gate.store (t := 36) ?_); refine CadH.st_row_eq rfl 36 _ _ rfl W1.heap.size cs.toArray rfl rfl 36 mz.toArray hz (by rw [made_info]; simp [hlen]) (by simp [hlen]; rfl) (by simpa using hone) ?_; intro Z hZ; have hbZ : Blk W1.heap.size 36 cs Z := (by rw [← hZ]; exact blk_row hz _)) | ((with_reducible refine Gate.load (t := 36) ?_); refine wpList_load_row rfl 36 _ rfl W1.heap.size rfl 36 cs.toArray (0, 0) _ hbZ rfl rfl (made_info.trans (by simp [hlen])) ?_) | go_values | go_skip | go_guarded | go_step | go_upon | go_back)
  have hd2 : Below w.heap.size w Z2 := hbel.trans (by rw [← hZ2]; exact (bel_made _ _ _).mono hbel.size)
  have hd3 : Below w.heap.size w Z := by rw [← hZ]; exact bel_row hd2 hbel.size
  have hd3b : Below W1.heap.size W1 Z := by rw [← hZ]; exact bel_row (by rw [← hZ2]; exact bel_made _ _ _) (Nat.le_refl _)
  obtain ⟨A, c, rfl, hat⟩ := CmpL.pr_at hPV
  obtain ⟨n, hn⟩ : ∃ n, n = ps.length := ⟨_, rfl⟩
  rw [← hn] at hc5
  have hT := table_any cs A n c wa fm ps Z hc5 hc6 hc27 hlen hn (hat.below hd3b) hok
  obtain ⟨mb, hmb⟩ : ∃ mb, mb = W1.heap.size := ⟨_, rfl⟩
  rw [← hmb] at hbZ
  try rw [← hmb]
  have HT := Lib.hid hT
  have HZ := Lib.hid (And.intro hd3 (And.intro hbZ (And.intro (hat.below hd3b) hok)))
  have HC := Lib.hid (And.intro hc5 (And.intro hc6 (And.intro hlen hn)))
  have n40 : n ≤ 40 := by rw [hn]; exact hok.2.1
  clear hd2 hd3 hd3b hT hZ hZ2 hz hbZ hgl hbel hone hlen hc1 hc27 hmb HM HFW hat hPV hok hn hc5 hc6 hGs hN0 hN9 hln
  refine HT.out.mono ?_
  rintro e W2 ⟨v12, T, rfl, hO, hTab⟩
  obtain ⟨gt, ct, rfl, _⟩ := hO.rd
  obtain ⟨nt, hnt⟩ : ∃ n, n = T.length := ⟨_, rfl⟩
  rw [← hnt]
  rw [← hnt] at hO
  have hnt5 : nt ≤ 5000 := by rw [hnt]; exact tab_len hTab
  have HTT := Lib.hid (And.intro hTab hnt)
  have HO := Lib.hid hO
  clear hTab hnt hO HT
  go_upto_region 8 with (fail)
  obtain ⟨X1, hX1⟩ : ∃ X, X = W2.alloc (.cells #[] 21) := ⟨_, rfl⟩
  have hI1 : Oi W2 X1 (.slice (some ⟨W2.heap.size, 0, none⟩) 0 0) [] := by
    rw [hX1]; exact ⟨made_row W2 _, by simp, bel_made W2 _ _⟩
  have hZ2 : Below Z.heap.size Z W2 := HO.out.2.2
  have hZW : Below w.heap.size w W2 := HZ.out.1.trans (hZ2.mono HZ.out.1.size)
  have hbW := HZ.out.2.1.keep hZ2
  have hatW := HZ.out.2.2.1.below hZ2
  have HW := Lib.hid (And.intro hZW (And.intro hbW (And.intro hatW HZ.out.2.2.2)))
  have c5 := (hbW.keep hI1.2.2).cell HC.out.1
  have HI1 := Lib.hid hI1
  rw [← hX1]
  clear hX1 hI1 hZ2 hZW hbW hatW
  go_upto_block 0 with (fail)
  go_cut [13, 15] from 65 to 75 (fun s13 s15 wx => ∃ lst : List Int, Oi W2 wx s13 lst ∧ lst.length ≤ 40 ∧ ∀ x ∈ lst, CmpD.Ask fm x)
  case first => as_aux_lemma =>
    go_wp2_with fail
    go_loopw [65, 13, 15] (fun ii s13 _ wx => ∃ (k : Nat) (lst : List Int), ii = .int .i64 (k : Int) ∧ k ≤ n ∧ Oi W2 wx s13 lst ∧ lst.length = k ∧ ∀ x ∈ lst, CmpD.Ask fm x) (fun ii _ _ _ => n - (intOf ii).toNat)
    case atStart => exact ⟨0, [], rfl, Nat.zero_le _, HI1.out, rfl, fun x hx => by cases hx⟩
    case round =>
      obtain ⟨k, lst, rfl, hk, hI, hll, hask⟩ := hrel
      obtain ⟨V, hV⟩ : ∃ V, V = wr := ⟨_, rfl⟩
      subst hV
      by_cases hlt : k < n
      · have hkp : k < ps.length := by rw [← HC.out.2.2.2]; exact hlt
        obtain ⟨gp, rfl, a0, a1⟩ := (HW.out.2.2.1.below hI.2.2) k hkp
        have hkey := (HW.out.2.2.2.2.2.1 _ (CmpD.mem_of hkp)).1
        obtain ⟨x, hx⟩ : ∃ x, (ps.getD k (0, 0)).1 = x := ⟨_, rfl⟩
        obtain ⟨y, hy⟩ : ∃ y, (ps.getD k (0, 0)).2 = y := ⟨_, rfl⟩
        rw [hx] at a0 hkey
        rw [hy] at a1
        have hxa := key_ask hkey
        have hxb := ask_bd hxa
        have wx : IntKind.i32.wrap x = x := IntWalk.i32_in _ (by omega)
        have HX := Lib.hid (And.intro hI (And.intro hll (And.intro hask hxa)))
        clear c5 hI hll hask hkey hx hy hxa
        go_upto_region 11 with (fail)
        obtain ⟨Y, hY⟩ : ∃ Y, Y = V.alloc (.cells #[.int .i64 x, .int .i64 y] 41) := ⟨_, rfl⟩
        have b0 : Y.cell? ⟨V.heap.size, 0, none⟩ = some (.int .i64 x) := by rw [hY]; simp
        have hOY : Oi W2 Y u13 lst := by rw [hY]; exact HX.out.1.keep (bel_made _ _ _)
        have HOY := Lib.hid hOY
        have hl1 : lst.length ≤ 1000 := by have := HX.out.2.1; omega
        obtain ⟨vb, hvb⟩ : ∃ b, b = V.heap.size := ⟨_, rfl⟩
        rw [← hY]
        rw [← hvb] at b0 ⊢
        clear hY hvb hOY
        go_wp2_with (first | ((with_reducible refine Gate.append ?_); refine app_i rfl _ _ rfl _ _ x rfl (by rfl) HOY.out hl1 ?_; intro v5 W5 h5; have H5 := Lib.hid h5; clear h5) | fail)
        go_roundw
        case rel =>
          refine ⟨k + 1, lst ++ [x], by go_num, hlt, H5.out, by rw [List.length_append, HX.out.2.1]; rfl, fun z hz => ?_⟩
          rcases List.mem_append.1 hz with hz | hz
          · exact HX.out.2.2.1 z hz
          · rw [List.mem_singleton] at hz
            rw [hz]; exact HX.out.2.2.2
        case measure => simp [intOf]; omega
      · have HX := Lib.hid (And.intro hI (And.intro hll hask))
        clear hI hll hask c5
        go_wp2_with fail
        go_meet
        exact ⟨lst, HX.out.1, by have := HX.out.2.1; omega, HX.out.2.2⟩
  case rest => as_aux_lemma =>
    obtain ⟨lst, hI, hll, hask⟩ := hcut
    obtain ⟨V1, hV1⟩ : ∃ V, V = wc := ⟨_, rfl⟩
    subst hV1
    have HI := Lib.hid (And.intro hI (And.intro hll hask))
    clear hI hll hask HI1 c5
    go_upto_block 2 with (fail)
    go_cut [13, 17, 18] from 78 to 116 (fun s13 s17 s18 wx => ∃ lst : List Int, Oi W2 wx s13 lst ∧ lst.length ≤ 140 ∧ ∀ x ∈ lst, CmpD.Ask fm x)
    case first => as_aux_lemma =>
      go_wp2_with fail
      go_loopw [78, 13, 17, 18] (fun ii s13 _ _ wx => ∃ (k : Nat) (lst : List Int), ii = .int .i64 (k : Int) ∧ k ≤ q ∧ Oi W2 wx s13 lst ∧ lst.length ≤ 40 + k ∧ ∀ x ∈ lst, CmpD.Ask fm x) (fun ii _ _ _ _ => q - (intOf ii).toNat)
      case atStart => exact ⟨0, lst, rfl, Nat.zero_le _, HI.out.1, HI.out.2.1, HI.out.2.2⟩
      case round =>
        obtain ⟨k, lst, rfl, hk, hI, hll, hask⟩ := hrel
        obtain ⟨V, hV⟩ : ∃ V, V = wr := ⟨_, rfl⟩
        subst hV
        by_cases hlt : k < q
        · obtain ⟨bq, oq, rfl, hblt, hAt⟩ := HMO.out.2.2 (by omega)
          have hkm : k < ms.length := by rw [← HMO.out.1]; exact hlt
          have hVw : Below w.heap.size w V := HW.out.1.trans (hI.2.2.mono HW.out.1.size)
          have hcell := (hAt.below hVw hblt).get hkm
          obtain ⟨r, hr⟩ : ∃ r, ms.getD k 0 = r := ⟨_, rfl⟩
          have hrb : 0 ≤ r ∧ r ≤ 4294967295 := by
            rw [← hr, List.getD_eq_getElem?_getD, List.getElem?_eq_getElem hkm]
            exact HMO.out.2.1 _ (List.getElem_mem _)
          rw [hr] at hcell
          obtain ⟨z, hz⟩ : ∃ z : Nat, r.tmod 1114112 = (z : Int) := ⟨(r.tmod 1114112).toNat, by have := Int.tmod_nonneg (a := r) 1114112 (by omega); omega⟩
          have hzb : z < 1114112 := by have := Int.tmod_lt_of_pos r (b := 1114112) (by omega); omega
          have wz1 : IntKind.u32.wrap (z : Int) = (z : Int) := IntWalk.u32_in _ (by omega)
          have wz2 : IntKind.i32.wrap (z : Int) = (z : Int) := IntWalk.i32_in _ (by omega)
          have c6 := (HW.out.2.1.keep hI.2.2).cell HC.out.2.1
          have hl1 : lst.length ≤ 1000 := by omega
          have HX := Lib.hid (And.intro hI (And.intro hll hask))
          have HLT := Lib.hid hlt
          have hfm := HW.out.2.2.2.1
          clear hI hll hask hr hVw hAt hblt
          go_upto_region 17 with (fail)
          go_cut [109] from 84 to 108 (fun s109 wx => ∃ b : Bool, s109 = .bool b ∧ (b = true → CmpD.Ask fm (z : Int)) ∧ V = wx)
          case first => as_aux_lemma =>
            rcases hfm with rfl | rfl | rfl | rfl
            · go_wp2_with fail
              go_meet
              exact ⟨true, rfl, fun _ => ⟨by omega, by omega, by omega⟩, (by first | rfl | trivial)⟩
            · go_wp2_with fail
              go_meet
              exact ⟨true, rfl, fun _ => ⟨by omega, by omega, by omega⟩, (by first | rfl | trivial)⟩
            · by_cases h6 : z < 65536
              · have h6i : (z : Int) < 65536 := by omega
                go_wp2_with fail
                go_meet
                exact ⟨true, rfl, fun _ => ⟨by omega, by omega, by omega⟩, (by first | rfl | trivial)⟩
              · have h6i : decide ((z : Int) < 65536) = false := by simp; omega
                go_wp2_with fail
                go_meet
                exact ⟨false, rfl, fun h => (by cases h), (by first | rfl | trivial)⟩
            · by_cases h0 : z < 127
              · have h0i : (z : Int) < 127 := by omega
                go_wp2_with fail
                go_meet
                exact ⟨true, rfl, fun _ => ⟨by omega, by omega, by omega⟩, (by first | rfl | trivial)⟩
              · have h0i : decide ((z : Int) < 127) = false := by simp; omega
                go_wp2_with fail
                go_meet
                exact ⟨false, rfl, fun h => (by cases h), (by first | rfl | trivial)⟩
          case rest => as_aux_lemma =>
            obtain ⟨b, rfl, hb, hwc⟩ := hcut
            subst hwc
            cases b
            · clear hb
              go_wp2_with fail
              go_roundw
              case rel => exact ⟨k + 1, lst, by go_num, HLT.out, HX.out.1, by have := HX.out.2.1; omega, HX.out.2.2⟩
              case measure => have := HLT.out; simp [intOf]; omega
            · have HBZ := Lib.hid (hb rfl)
              clear hb
              go_wp2_with (first | ((with_reducible refine Gate.append ?_); refine app_i rfl _ _ rfl _ _ (z : Int) rfl (by rfl) HX.out.1 hl1 ?_; intro v5 W5 h5; have H5 := Lib.hid h5; clear h5) | fail)
              go_roundw
              case rel =>
                refine ⟨k + 1, lst ++ [(z : Int)], by go_num, HLT.out, H5.out, by rw [List.length_append]; have := HX.out.2.1; simp; omega, fun y hy => ?_⟩
                rcases List.mem_append.1 hy with hy | hy
                · exact HX.out.2.2 y hy
                · rw [List.mem_singleton] at hy
                  rw [hy]; exact HBZ.out
              case measure => have := HLT.out; simp [intOf]; omega
        · have HX := Lib.hid (And.intro hI (And.intro hll hask))
          clear hI hll hask
          go_wp2_with fail
          go_meet
          exact ⟨lst, HX.out.1, by have := HX.out.2.1; omega, HX.out.2.2⟩
    case rest => as_aux_lemma =>
      obtain ⟨lst2, hI, hll, hask⟩ := hcut
      obtain ⟨V, hV⟩ : ∃ V, V = wc := ⟨_, rfl⟩
      subst hV
      obtain ⟨gr, cr, hv13, hA13, _⟩ := own_open hI.1 hI.2.1
      obtain ⟨m, hm⟩ : ∃ m, m = lst2.length := ⟨_, rfl⟩
      rw [← hm] at hv13
      subst hv13
      have m140 : m ≤ 140 := by omega
      have hOV : Ob Z V (.slice (some ⟨gt, 0, none⟩) nt ct) T := HO.out.keep hI.2.2
      have hbV := HW.out.2.1.keep hI.2.2
      have hatV := HW.out.2.2.1.below hI.2.2
      have hwV : Below w.heap.size w V := HW.out.1.trans (hI.2.2.mono HW.out.1.size)
      have c6V := hbV.cell HC.out.2.1
      have hfm := HW.out.2.2.2.1
      have hfmb : 0 ≤ fm ∧ fm ≤ 12 := by rcases hfm with rfl | rfl | rfl | rfl <;> decide
      have w16 : IntKind.u16.wrap fm = fm := IntWalk.u16_in _ (by omega)
      have wna : IntKind.u32.wrap (na : Int) = (na : Int) := IntWalk.u32_in _ (by omega)
      have wnt : IntKind.u32.wrap (nt : Int) = (nt : Int) := IntWalk.u32_in _ (by omega)
      have HV := Lib.hid (And.intro hOV (And.intro hbV (And.intro hatV (And.intro hwV c6V))))
      have HA := Lib.hid (And.intro hA13 (And.intro hask hm))
      clear hI hll hask hA13 hm hOV hbV hatV hwV c6V hfm hfmb
      go_upto_region 20 with (fail)
      refine Tail.start (S := (fun w' => Below V.heap.size V w')) (tl := [20]) (by kernel_rfl) (Below.drew (Below.refl _ _)) (fun hHeld => ?_)
      refine Tail.take (i := 1) (v := ?vq1) rfl (by kernel_rfl) (by kernel_rfl) (by kernel_rfl) (by kernel_rfl) (by kernel_rfl) (fun _ _ _ h => h) (Or.inl ⟨by rfl, ?hyq1⟩) (by assumption) ?restq1
      case hyq1 => (intro w1 hS; go_simp <;> with_reducible rfl)
      try simp only [Act.put, List.getElem_toArray, List.getElem_cons_zero, List.getElem_cons_succ, List.setIfInBounds_toArray, List.set_cons_zero, List.set_cons_succ]
      refine Tail.take (i := 3) (v := ?vq2) rfl (by kernel_rfl) (by kernel_rfl) (by kernel_rfl) (by kernel_rfl) (by kernel_rfl) (fun _ _ _ h => h) (Or.inl ⟨by rfl, ?hyq2⟩) (by assumption) ?restq2
      case hyq2 => (intro w1 hS; go_simp <;> with_reducible rfl)
      try simp only [Act.put, List.getElem_toArray, List.getElem_cons_zero, List.getElem_cons_succ, List.setIfInBounds_toArray, List.set_cons_zero, List.set_cons_succ]
      refine Tail.take (i := 5) (v := ?vq3) rfl (by kernel_rfl) (by kernel_rfl) (by kernel_rfl) (by kernel_rfl) (by kernel_rfl) (fun _ _ _ h => h) (Or.inl ⟨by rfl, ?hyq3⟩) (by assumption) ?restq3
      case hyq3 => (intro w1 hS; go_simp <;> with_reducible rfl)
      try simp only [Act.put, List.getElem_toArray, List.getElem_cons_zero, List.getElem_cons_succ, List.setIfInBounds_toArray, List.set_cons_zero, List.set_cons_succ]
      refine Tail.take (i := 6) (v := ?vq4) rfl (by kernel_rfl) (by kernel_rfl) (by kernel_rfl) (by kernel_rfl) (by kernel_rfl) (fun _ _ _ h => h) (Or.inl ⟨by rfl, ?hyq4⟩) (by assumption) ?restq4
      case hyq4 => (intro w1 hS; go_simp <;> with_reducible rfl)
      try simp only [Act.put, List.getElem_toArray, List.getElem_cons_zero, List.getElem_cons_succ, List.setIfInBounds_toArray, List.set_cons_zero, List.set_cons_succ]
      refine Tail.take (i := 7) (v := ?vq5) rfl (by kernel_rfl) (by kernel_rfl) (by kernel_rfl) (by kernel_rfl) (by kernel_rfl) (fun _ _ _ h => h) (Or.inl ⟨by rfl, ?hyq5⟩) (by assumption) ?restq5
      case hyq5 => (intro w1 hS; go_simp <;> with_reducible rfl)
      try simp only [Act.put, List.getElem_toArray, List.getElem_cons_zero, List.getElem_cons_succ, List.setIfInBounds_toArray, List.set_cons_zero, List.set_cons_succ]
      refine Tail.take (i := 8) (v := ?vq6) rfl (by kernel_rfl) (by kernel_rfl) (by kernel_rfl) (by kernel_rfl) (by kernel_rfl) (fun _ _ _ h => h) (Or.inl ⟨by rfl, ?hyq6⟩) (by assumption) ?restq6
      case hyq6 => (intro w1 hS; go_simp <;> with_reducible rfl)
      try simp only [Act.put, List.getElem_toArray, List.getElem_cons_zero, List.getElem_cons_succ, List.setIfInBounds_toArray, List.set_cons_zero, List.set_cons_succ]
      refine Tail.take (i := 9) (v := ?vq7) rfl (by kernel_rfl) (by kernel_rfl) (by kernel_rfl) (by kernel_rfl) (by kernel_rfl) (fun _ _ _ h => h) (Or.inl ⟨by rfl, ?hyq7⟩) (by assumption) ?restq7
      case hyq7 => (intro w1 hS; go_simp <;> with_reducible rfl)
      try simp only [Act.put, List.getElem_toArray, List.getElem_cons_zero, List.getElem_cons_succ, List.setIfInBounds_toArray, List.set_cons_zero, List.set_cons_succ]
      refine Tail.take (i := 10) (v := ?vq8) rfl (by kernel_rfl) (by kernel_rfl) (by kernel_rfl) (by kernel_rfl) (by kernel_rfl) (fun _ _ _ h => h) (Or.inl ⟨by rfl, ?hyq8⟩) (by assumption) ?restq8
      case hyq8 => (intro w1 hS; go_simp <;> with_reducible rfl)
      try simp only [Act.put, List.getElem_toArray, List.getElem_cons_zero, List.getElem_cons_succ, List.setIfInBounds_toArray, List.set_cons_zero, List.set_cons_succ]
      refine Tail.take (i := 11) (v := ?vq9) rfl (by kernel_rfl) (by kernel_rfl) (by kernel_rfl) (by kernel_rfl) (by kernel_rfl) (fun _ _ _ h => h) (Or.inl ⟨by rfl, ?hyq9⟩) (by assumption) ?restq9
      case hyq9 => (intro w1 hS; go_simp <;> with_reducible rfl)
      try simp only [Act.put, List.getElem_toArray, List.getElem_cons_zero, List.getElem_cons_succ, List.setIfInBounds_toArray, List.set_cons_zero, List.set_cons_succ]
      refine Tail.take (i := 12) (v := ?vq10) rfl (by kernel_rfl) (by kernel_rfl) (by kernel_rfl) (by kernel_rfl) (by kernel_rfl) (fun _ _ _ h => h) (Or.inl ⟨by rfl, ?hyq10⟩) (by assumption) ?restq10
      case hyq10 => (intro w1 hS; have k := below_cell HV.out.2.2.2.2 hS; go_simp <;> with_reducible rfl)
      try simp only [Act.put, List.getElem_toArray, List.getElem_cons_zero, List.getElem_cons_succ, List.setIfInBounds_toArray, List.set_cons_zero, List.set_cons_succ]
      refine Tail.take (i := 13) (v := ?vq11) rfl (by kernel_rfl) (by kernel_rfl) (by kernel_rfl) (by kernel_rfl) (by kernel_rfl) (fun _ _ _ h => h) (Or.inl ⟨by rfl, ?hyq11⟩) (by assumption) ?restq11
      case hyq11 => (intro w1 hS; go_simp <;> with_reducible rfl)
      try simp only [Act.put, List.getElem_toArray, List.getElem_cons_zero, List.getElem_cons_succ, List.setIfInBounds_toArray, List.set_cons_zero, List.set_cons_succ]
      refine Tail.take (i := 14) (v := ?vq12) rfl (by kernel_rfl) (by kernel_rfl) (by kernel_rfl) (by kernel_rfl) (by kernel_rfl) (fun _ _ _ h => h) (Or.inl ⟨by rfl, ?hyq12⟩) (by assumption) ?restq12
      case hyq12 => (intro w1 hS; go_simp <;> with_reducible rfl)
      try simp only [Act.put, List.getElem_toArray, List.getElem_cons_zero, List.getElem_cons_succ, List.setIfInBounds_toArray, List.set_cons_zero, List.set_cons_succ]
      obtain ⟨D, hD⟩ : ∃ D, D = V.drew := ⟨_, rfl⟩
      rw [← hD] at hHeld
      rw [← hD]
      clear hD
      refine Tail.ready (rs := [0]) (by kernel_rfl) (by simp) (Tail.AllReadyL.cons rfl (fun K hK => ?_) Tail.AllReadyL.nil)
      go_simp
      have hP : Ob D (D.alloc (.cells #[] 5)) (.slice (some ⟨D.heap.size, 0, none⟩) 0 0) [] := ⟨made_row D _, by simp, bel_made D _ _⟩
      have hVD := hHeld
      refine hK.out _ _ (hVD.trans (hP.2.2.mono hVD.size)) (fun hHeld => ?_)
      clear hK K
      try simp only [Act.put, List.getElem_toArray, List.getElem_cons_zero, List.getElem_cons_succ, List.setIfInBounds_toArray, List.set_cons_zero, List.set_cons_succ]
      obtain ⟨X0, hX0⟩ : ∃ X, X = D.alloc (.cells #[] 5) := ⟨_, rfl⟩
      obtain ⟨db, hdb⟩ : ∃ b, b = D.heap.size := ⟨_, rfl⟩
      rw [← hX0, ← hdb] at hP
      rw [← hX0] at hHeld
      rw [← hX0, ← hdb]
      clear hX0 hdb
      refine Tail.ready (rs := [2]) (by kernel_rfl) (by simp) (Tail.AllReadyL.cons rfl (fun K hK => ?_) Tail.AllReadyL.nil)
      refine step_b rfl (.tmp 118) (.tmp 119) rfl _ [] rfl hP AA na ca az rfl (HNA.out.keep (HV.out.2.2.2.1.trans (hHeld.mono HV.out.2.2.2.1.size))) (by simp; omega) ?_
      intro v1 X1 hP
      refine hK.out _ _ (hVD.trans (hP.2.2.mono hVD.size)) (fun hHeld => ?_)
      clear hK K
      try simp only [Act.put, List.getElem_toArray, List.getElem_cons_zero, List.getElem_cons_succ, List.setIfInBounds_toArray, List.set_cons_zero, List.set_cons_succ]
      refine Tail.ready (rs := [4]) (by kernel_rfl) (by simp) (Tail.AllReadyL.cons rfl (fun K hK => ?_) Tail.AllReadyL.nil)
      refine step_bb rfl (.tmp 120) (.tmp 121) rfl _ _ ([] ++ az) T rfl rfl hP (HV.out.1.keep hHeld) (by have := HAL.out; have := HTT.out.2; simp; omega) ?_
      intro v2 X2 hP _
      obtain ⟨gN, cN, hv2, hRN, hcN⟩ := hP.rd
      obtain ⟨N, hN⟩ : ∃ N, N = na + nt := ⟨_, rfl⟩
      have hlN : ([] ++ az ++ T).length = N := by have := HAL.out; have := HTT.out.2; simp; omega
      rw [hlN] at hv2
      subst hv2
      have hVX := hVD.trans (hP.2.2.mono hVD.size)
      refine hK.out _ _ hVX (fun hHeld => ?_)
      clear hK K
      try simp only [Act.put, List.getElem_toArray, List.getElem_cons_zero, List.getElem_cons_succ, List.setIfInBounds_toArray, List.set_cons_zero, List.set_cons_succ]
      have hA2 : At X2 gN 0 (vals .u8 (az ++ T)) := by
        have h := hP.1
        rw [hlN] at h
        exact At.of_own h
      have hcm := (cmap_any gN N cN na nt gr cr (CmpD.Ask fm) (CmpL.look ps) fm az T lst2 X2 HTT.out.1 hA2 HAL.out HTT.out.2 hN hna2 (by omega) (fun r _ => by have := CmpL.look_bd (fun p hp => (HW.out.2.2.2.2.2.1 p hp).2) r; omega) (below_at HA.out.1 hVX) HA.out.2.1 (by have := HA.out.2.2; omega))
      rw [← HA.out.2.2] at hcm
      have HCM := Lib.hid hcm
      have HVX := Lib.hid hVX
      clear hP hRN hcN hlN hVX hA2 hHeld hN hcm
      refine Tail.ready (rs := [15]) (by kernel_rfl) (by simp) (Tail.AllReadyL.cons rfl (fun K hK => ?_) Tail.AllReadyL.nil)
      go_simp
      refine HCM.out.mono ?_
      rintro e X3 ⟨v3, rfl, h3, hb3⟩
      have h3' : X3.ownsRow X2.heap.size 3 1 v3 (lst2.map (CmpL.look ps)).length (vals .i64 (lst2.map (CmpL.look ps))) := by rw [List.length_map]; exact h3
      obtain ⟨A3, c3, hv3, hA3⟩ := nat_own h3'
      rw [List.length_map, ← HA.out.2.2] at hv3
      subst hv3
      have hVX3 := HVX.out.trans (hb3.mono HVX.out.size)
      have H3 := Lib.hid (And.intro hA3 hVX3)
      refine hK.out _ _ hVX3 (fun hHeld => ?_)
      clear hK K h3 h3' hA3 hb3 hVX3
      try simp only [Act.put, List.getElem_toArray, List.getElem_cons_zero, List.getElem_cons_succ, List.setIfInBounds_toArray, List.set_cons_zero, List.set_cons_succ]
      refine Tail.ready (rs := [16]) (by kernel_rfl) (by simp) (Tail.AllReadyL.cons rfl (fun K hK => ?_) Tail.AllReadyL.nil)
      go_simp
      refine hK.out _ _ hHeld (fun hHeld => ?_)
      clear hK K
      try simp only [Act.put, List.getElem_toArray, List.getElem_cons_zero, List.getElem_cons_succ, List.setIfInBounds_toArray, List.set_cons_zero, List.set_cons_succ]
      refine Tail.take (i := 17) (v := ?vq13) rfl (by kernel_rfl) (by kernel_rfl) (by kernel_rfl) (by kernel_rfl) (by kernel_rfl) (fun _ _ _ h => h) (Or.inl ⟨by rfl, ?hyq13⟩) (by assumption) ?restq13
      case hyq13 => (intro w1 hS; go_simp <;> with_reducible rfl)
      try simp only [Act.put, List.getElem_toArray, List.getElem_cons_zero, List.getElem_cons_succ, List.setIfInBounds_toArray, List.set_cons_zero, List.set_cons_succ]
      refine Tail.take (i := 18) (v := ?vq14) rfl (by kernel_rfl) (by kernel_rfl) (by kernel_rfl) (by kernel_rfl) (by kernel_rfl) (fun _ _ _ h => h) (Or.inl ⟨by rfl, ?hyq14⟩) (by assumption) ?restq14
      case hyq14 => (intro w1 hS; go_simp <;> with_reducible rfl)
      try simp only [Act.put, List.getElem_toArray, List.getElem_cons_zero, List.getElem_cons_succ, List.setIfInBounds_toArray, List.set_cons_zero, List.set_cons_succ]
      refine Tail.ready (rs := [19]) (by kernel_rfl) (by simp) (Tail.AllReadyL.cons rfl (fun K hK => ?_) Tail.AllReadyL.nil)
      go_simp
      refine hK.out _ _ hHeld (fun hHeld => ?_)
      clear hK K
      try simp only [Act.put, List.getElem_toArray, List.getElem_cons_zero, List.getElem_cons_succ, List.setIfInBounds_toArray, List.set_cons_zero, List.set_cons_succ]
      refine Tail.ready (rs := [20]) (by kernel_rfl) (by simp) (Tail.AllReadyL.last rfl (by rfl) (fun K hK => ?_) Tail.AllReadyL.nil)
      clear hHeld
      go_simp
      refine hK.out _ _ ?_
      clear hK K
      try simp only [Act.put, List.getElem_toArray, List.getElem_cons_zero, List.getElem_cons_succ, List.setIfInBounds_toArray, List.set_cons_zero, List.set_cons_succ]
      refine Tail.done (by kernel_rfl) ?_ _
      have hmm : ((m : Int) != (m : Int)) = false := by simp
      go_upto_block 4 with (fail)
      clear hmm w16 wna wnt
      go_wp2_with fail
      go_loopw [147, 21, 22] (fun ii _ _ wr => ∃ k : Nat, ii = .int .i64 (k : Int) ∧ k ≤ m ∧ Below X3.heap.size X3 wr) (fun ii _ _ _ => m - (intOf ii).toNat)
      case atStart => exact ⟨0, rfl, Nat.zero_le _, Below.refl _ _⟩
      case round =>
        obtain ⟨k, rfl, hk, hb⟩ := hrel
        obtain ⟨Y, hY⟩ : ∃ Y, Y = wr := ⟨_, rfl⟩
        subst hY
        have hbV : Below V.heap.size V Y := H3.out.2.trans (hb.mono H3.out.2.size)
        by_cases hlt : k < m
        · have hkl : k < lst2.length := by rw [← HA.out.2.2]; exact hlt
          have ac := (below_at HA.out.1 hbV).get hkl
          rw [Nat.zero_add] at ac
          obtain ⟨g3, rfl, bc⟩ := (H3.out.1.below hb) k (by rw [List.length_map]; exact hkl)
          obtain ⟨r, hr⟩ : ∃ r, lst2.getD k 0 = r := ⟨_, rfl⟩
          have hra : CmpD.Ask fm r := by
            rw [← hr, List.getD_eq_getElem?_getD, List.getElem?_eq_getElem hkl]
            exact HA.out.2.1 _ (List.getElem_mem _)
          have hmapd : (lst2.map (CmpL.look ps)).getD k 0 = CmpL.look ps r := by
            rw [← hr, List.getD_eq_getElem?_getD, List.getElem?_map, List.getElem?_eq_getElem hkl, List.getD_eq_getElem?_getD, List.getElem?_eq_getElem hkl]
            rfl
          rw [hr] at ac
          rw [hmapd] at bc
          have hrb := ask_bd hra
          have w64 : IntKind.i64.wrap r = r := IntWalk.i64_in _ (by omega)
          obtain ⟨y, hy⟩ : ∃ y, CmpL.look ps r = y := ⟨_, rfl⟩
          rw [hy] at bc
          have HK := Lib.hid (And.intro bc (And.intro hb (And.intro hy (HV.out.2.1.keep hbV))))
          have HKA := Lib.hid (HV.out.2.2.1.below hbV)
          clear hr hra hmapd hy hb hbV
          go_upto_region 26 with (fail)
          refine Tail.start (S := (fun w' => Below Y.heap.size Y w')) (tl := [8]) (by kernel_rfl) (Below.drew (Below.refl _ _)) (fun hHeld => ?_)
          refine Tail.take (i := 0) (v := ?vq15) rfl (by kernel_rfl) (by kernel_rfl) (by kernel_rfl) (by kernel_rfl) (by kernel_rfl) (fun _ _ _ h => h) (Or.inl ⟨by rfl, ?hyq15⟩) (by assumption) ?restq15
          case hyq15 => (intro w1 hS; go_simp <;> with_reducible rfl)
          try simp only [Act.put, List.getElem_toArray, List.getElem_cons_zero, List.getElem_cons_succ, List.setIfInBounds_toArray, List.set_cons_zero, List.set_cons_succ]
          refine Tail.take (i := 1) (v := ?vq16) rfl (by kernel_rfl) (by kernel_rfl) (by kernel_rfl) (by kernel_rfl) (by kernel_rfl) (fun _ _ _ h => h) (Or.inl ⟨by rfl, ?hyq16⟩) (by assumption) ?restq16
          case hyq16 => (intro w1 hS; go_simp <;> with_reducible rfl)
          try simp only [Act.put, List.getElem_toArray, List.getElem_cons_zero, List.getElem_cons_succ, List.setIfInBounds_toArray, List.set_cons_zero, List.set_cons_succ]
          refine Tail.take (i := 2) (v := ?vq17) rfl (by kernel_rfl) (by kernel_rfl) (by kernel_rfl) (by kernel_rfl) (by kernel_rfl) (fun _ _ _ h => h) (Or.inl ⟨by rfl, ?hyq17⟩) (by assumption) ?restq17
          case hyq17 => (intro w1 hS; go_simp <;> with_reducible rfl)
          try simp only [Act.put, List.getElem_toArray, List.getElem_cons_zero, List.getElem_cons_succ, List.setIfInBounds_toArray, List.set_cons_zero, List.set_cons_succ]
          refine Tail.take (i := 3) (v := ?vq18) rfl (by kernel_rfl) (by kernel_rfl) (by kernel_rfl) (by kernel_rfl) (by kernel_rfl) (fun _ _ _ h => h) (Or.inl ⟨by rfl, ?hyq18⟩) (by assumption) ?restq18
          case hyq18 => (intro w1 hS; have k := below_cell HK.out.1 hS; go_simp <;> with_reducible rfl)
          try simp only [Act.put, List.getElem_toArray, List.getElem_cons_zero, List.getElem_cons_succ, List.setIfInBounds_toArray, List.set_cons_zero, List.set_cons_succ]
          refine Tail.take (i := 5) (v := ?vq19) rfl (by kernel_rfl) (by kernel_rfl) (by kernel_rfl) (by kernel_rfl) (by kernel_rfl) (fun _ _ _ h => h) (Or.inl ⟨by rfl, ?hyq19⟩) (by assumption) ?restq19
          case hyq19 => (intro w1 hS; go_simp <;> with_reducible rfl)
          try simp only [Act.put, List.getElem_toArray, List.getElem_cons_zero, List.getElem_cons_succ, List.setIfInBounds_toArray, List.set_cons_zero, List.set_cons_succ]
          refine Tail.take (i := 6) (v := ?vq20) rfl (by kernel_rfl) (by kernel_rfl) (by kernel_rfl) (by kernel_rfl) (by kernel_rfl) (fun _ _ _ h => h) (Or.inl ⟨by rfl, ?hyq20⟩) (by assumption) ?restq20
          case hyq20 => (intro w1 hS; go_simp <;> with_reducible rfl)
          try simp only [Act.put, List.getElem_toArray, List.getElem_cons_zero, List.getElem_cons_succ, List.setIfInBounds_toArray, List.set_cons_zero, List.set_cons_succ]
          obtain ⟨X, hX⟩ : ∃ D, D = Y.drew := ⟨_, rfl⟩
          rw [← hX] at hHeld
          rw [← hX]
          clear hX
          have hbX := HK.out.2.2.2.keep hHeld
          have HLK := Lib.hid (CmpL.lookup_any cs A n c ps r X HC.out.1 HC.out.2.2.2 n40 (HKA.out.below hHeld))
          refine Tail.ready (rs := [4]) (by kernel_rfl) (by simp) (Tail.AllReadyL.cons rfl (fun K hK => ?_) Tail.AllReadyL.nil)
          refine step_load rfl (.tmp 11) rfl mb rfl cs hbX HC.out.2.2.1 ?_
          refine hK.out _ _ hHeld (fun hHeld => ?_)
          clear hK K hbX
          try simp only [Act.put, List.getElem_toArray, List.getElem_cons_zero, List.getElem_cons_succ, List.setIfInBounds_toArray, List.set_cons_zero, List.set_cons_succ]
          refine Tail.ready (rs := [7]) (by kernel_rfl) (by simp) (Tail.AllReadyL.cons rfl (fun K hK => ?_) Tail.AllReadyL.nil)
          go_simp
          refine HLK.out.mono ?_
          rintro e X5 ⟨rfl, hb5⟩
          rw [HK.out.2.2.1]
          have hYX := hHeld.trans (hb5.mono hHeld.size)
          have HYX := Lib.hid hYX
          refine hK.out _ _ hYX (fun hHeld => ?_)
          clear hK K hb5 hYX
          try simp only [Act.put, List.getElem_toArray, List.getElem_cons_zero, List.getElem_cons_succ, List.setIfInBounds_toArray, List.set_cons_zero, List.set_cons_succ]
          refine Tail.ready (rs := [8]) (by kernel_rfl) (by simp) (Tail.AllReadyL.last rfl (by rfl) (fun K hK => ?_) Tail.AllReadyL.nil)
          clear hHeld
          go_simp
          refine hK.out _ _ ?_
          clear hK K
          try simp only [Act.put, List.getElem_toArray, List.getElem_cons_zero, List.getElem_cons_succ, List.setIfInBounds_toArray, List.set_cons_zero, List.set_cons_succ]
          refine Tail.done (by kernel_rfl) ?_ _
          have hyy : (y != y) = false := by simp
          go_wp2_with fail
          go_roundw
          case rel => exact ⟨k + 1, by go_num, hlt, HK.out.2.1.trans (HYX.out.mono HK.out.2.1.size)⟩
          case measure => simp [intOf]; omega
        · obtain rfl : k = m := by omega
          have HE := Lib.hid (HV.out.2.2.2.1.trans (hbV.mono HV.out.2.2.2.1.size))
          clear hb hbV
          go_wp2_with fail
          go_ret
          exact ⟨rfl, HE.out⟩
set_option maxHeartbeats 4000000 in
set_option maxRecDepth 4000 in
theorem row (f : Int) (hf : (Lit.int .u32 f).wf = true) (a1 : Option Addr) (n1 c1 : Nat) (z1 : List Int) (a2 : Option Addr) (n2 c2 : Nat) (z2 : List Int) (a3 : Option Addr) (n3 c3 : Nat) (z3 : List Int) (a4 : Option Addr) (n4 c4 : Nat) (z4 : List Int) (w : World) (w1 : IsRow .u32 w a1 n1 c1 z1) (w2 : IsRow .u16 w a2 n2 c2 z2) (w3 : IsRow .u8 w a3 n3 c3 z3) (w4 : IsRow .u32 w a4 n4 c4 z4) :
    Calls Tryd.prog 3 #[.int .u32 f, .slice a1 n1 c1, .slice a2 n2 c2, .slice a3 n3 c3, .slice a4 n4 c4] w fun e w' => e = .returned (.bool true) ∧ Below w.heap.size w w' := by
  by_cases h1 : (2147483647 : Int) < (n1 : Int)
  · clear w1 w2 w3 w4 hf
    go_enter Tryd.func3, Tryd.ntmps3
    go_wp2
    go_ret
    exact ⟨rfl, Below.refl _ _⟩
  by_cases h2 : (2147483647 : Int) < (n2 : Int)
  · clear w1 w2 w3 w4 hf
    go_enter Tryd.func3, Tryd.ntmps3
    go_wp2
    go_ret
    exact ⟨rfl, Below.refl _ _⟩
  by_cases h3 : (2147483647 : Int) < (n3 : Int)
  · clear w1 w2 w3 w4 hf
    go_enter Tryd.func3, Tryd.ntmps3
    go_wp2
    go_ret
    exact ⟨rfl, Below.refl _ _⟩
  by_cases h4 : (2147483647 : Int) < (n4 : Int)
  · clear w1 w2 w3 w4 hf
    go_enter Tryd.func3, Tryd.ntmps3
    go_wp2
    go_ret
    exact ⟨rfl, Below.refl _ _⟩
  have hfew := few_any a1 a2 n1 c1 n2 c2 w
  by_cases h5 : n1 ≤ 100 ∧ n2 ≤ 1000
  · by_cases h6 : (100 : Int) < (n3 : Int)
    · rw [decide_eq_true h5] at hfew
      have HFW := Lib.hid hfew
      clear w1 w2 w3 w4 hf hfew
      go_enter Tryd.func3, Tryd.ntmps3
      go_wp2_with fail
      refine HFW.out.mono ?_
      rintro e w1 ⟨rfl, rfl⟩
      go_wp2_with fail
      go_ret
      exact ⟨rfl, Below.refl _ _⟩
    by_cases h7 : (100 : Int) < (n4 : Int)
    · rw [decide_eq_true h5] at hfew
      have HFW := Lib.hid hfew
      clear w1 w2 w3 w4 hf hfew
      go_enter Tryd.func3, Tryd.ntmps3
      go_wp2_with fail
      refine HFW.out.mono ?_
      rintro e w1 ⟨rfl, rfl⟩
      go_wp2_with fail
      go_ret
      exact ⟨rfl, Below.refl _ _⟩
    · have hle : ∀ {k : IntKind} {a : Option Addr} {n c : Nat} {z : List Int}, IsRow k w a n c z → n ≤ c := fun h => by rcases h with ⟨_, h, h2, _⟩ | ⟨_, _, h, _⟩ <;> omega
      exact walk f a1 a2 a3 a4 n1 c1 n2 c2 n3 c3 n4 c4 (z1.take n1) (z3.take n3) (z4.take n4) w (bounds_u32 hf) w1.len.symm h5.1 (hle w1) (fun y hy => bounds_u32 (w1.wf y hy)) (src_of w1)
        ⟨a2, n2, c2, z2.take n2, rfl, w2.len.symm, h5.2, hle w2, fun y hy => bounds_u16 (w2.wf y hy), src_of w2⟩ h5.2 (Rd.of_ints w3) (by omega) w4.len.symm (by omega) (fun y hy => bounds_u32 (w4.wf y hy)) (src_of w4)
  · rw [decide_eq_false h5] at hfew
    have HFW := Lib.hid hfew
    clear w1 w2 w3 w4 hf hfew
    go_enter Tryd.func3, Tryd.ntmps3
    go_wp2_with fail
    refine HFW.out.mono ?_
    rintro e w1 ⟨rfl, rfl⟩
    go_wp2_with fail
    go_ret
    exact ⟨rfl, Below.refl _ _⟩
end Go.Proofs.YthcdolgmifkfdaaDoor.FnCmapW
