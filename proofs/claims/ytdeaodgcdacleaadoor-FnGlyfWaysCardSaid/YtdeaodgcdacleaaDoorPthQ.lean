/- Contract of the reference's path of a glyph. -/
import Derived.Test.YtdeaodgcdacleaaDoorPthP
import Derived.Test.YtdeaodgcdacleaaDoorPthC
namespace Go.Proofs.YtdeaodgcdacleaaDoor.PthQ
open Go.ChangeShapes Go.WideShapes Go.ChangeAt Go.RowKit
open Lst Mem RowG GlyM PthA PthB PthC PthP
set_option linter.unusedSimpArgs false
set_option linter.unusedVariables false
theorem glyph_zero (w : World) : (zeroValue 55).run Tryd.prog w = .ok (.agg #[.slice none 0 0, .slice none 0 0]) w := by kernel_rfl

set_option maxHeartbeats 20000000 in
set_option maxRecDepth 4000 in
theorem path_simple (T : Tys) (hTd : T.dot = 72) (B lb l lc X : Nat) (dep : Int) (vc : Value) (cs : List (List Dot)) (A4 : Option Addr) (c4 : Nat) (w : World) (hX : X < l) (hl : l ≤ 100) (hv1 : w.cell? ⟨lb, X * 2, none⟩ = some vc) (hv2 : w.cell? ⟨lb, X * 2 + 1, none⟩ = some (.slice A4 0 c4))
    (hc : Cons T w B vc cs) (h3 : cs.length ≤ 3) (hok : ∀ c ∈ cs, ConOk c) :
    Calls Tryd.prog 10 #[.slice (some ⟨lb, 0, none⟩) l lc, .int .i64 X, .int .i64 dep] w (PathP w (pathC cs)) := by
  obtain ⟨VA, cc, hvc⟩ : ∃ VA cc, vc = .slice VA cs.length cc := by
    rcases hc with ⟨e, h⟩ | ⟨g, c, e, _⟩
    · exact ⟨none, 0, by rw [e, h]; rfl⟩
    · exact ⟨_, c, e⟩
  obtain ⟨n, hn⟩ : ∃ n, cs.length = n := ⟨_, rfl⟩
  rw [hn] at hvc h3
  subst hvc
  have HC : Hid (∀ i, i < n → ∃ g q c', VA = some ⟨g, 0, none⟩ ∧ g < w.heap.size ∧ w.cell? ⟨g, i, none⟩ = some (.slice (some ⟨q, 0, none⟩) (cs.getD i []).length c') ∧ Row w B q 72 ((cs.getD i []).flatMap dotc) ∧ (cs.getD i []).length ≤ c') := Lib.hid (fun i hi => by
    rcases hc with ⟨_, h⟩ | ⟨g, c, e, ht, _, h2⟩
    · rw [h] at hn; simp at hn; omega
    · obtain ⟨q, c', a, b, d⟩ := h2 i (by omega)
      injection e with e _ _
      exact ⟨g, q, c', e, ht.lt, a, by rw [← hTd]; exact b, d⟩)
  have HK := Lib.hid (And.intro hok hn)
  have hn0 : n = cs.length := hn.symm
  clear hc hok hn hTd
  have HN := Lib.hid hn0
  clear hn0
  go_enter Tryd.func10, Tryd.ntmps10
  go_wp2_with fail
  have hb1 := bel_made w #[.slice VA n cc, .slice A4 0 c4] 55
  obtain ⟨W1, hW1⟩ : ∃ W1, W1 = w.alloc (.cells #[.slice VA n cc, .slice A4 0 c4] 55) := ⟨_, rfl⟩
  have hs1 : W1.heap.size = w.heap.size + 1 := by rw [hW1, World.size_alloc]
  rw [← hW1] at hb1
  rw [← hW1]
  have hE := sgs_empty (w := W1) (B := w.heap.size) hb1.size
  have hb2 := hb1.trans ((bel_made W1 #[] 89).mono hb1.size)
  obtain ⟨W2, hW2⟩ : ∃ W2, W2 = W1.alloc (.cells #[] 89) := ⟨_, rfl⟩
  rw [← hW2, hs1] at hE
  rw [← hW2] at hb2
  rw [← hW2]
  have HS := Lib.hid (And.intro hb2 hE)
  clear hb1 hb2 hE hW1 hW2 hv1 hv2
  go_loopw [8, 30] (fun v i wr => ∃ k : Nat, k ≤ n ∧ i = .int .i64 k ∧ Below w.heap.size w wr ∧ Sgs wr w.heap.size v (pathC (cs.take k))) (fun _ i _ => n - (intOf i).toNat)
  case atStart => exact ⟨0, Nat.zero_le _, rfl, HS.out.1, HS.out.2⟩
  case round =>
    clear HS
    obtain ⟨k, hk, rfl, hb, hS⟩ := hrel
    by_cases hlt : k < n
    · obtain ⟨g, q, c', rfl, hgl, hcl, hR, hcc⟩ := HC.out k hlt
      have hmem : cs.getD k [] ∈ cs := getD_mem _ _ _ (by rw [← HN.out]; exact hlt)
      have hck := HK.out.1 _ hmem
      have d0 := (hb.cell (p := ⟨g, k, none⟩) hgl).trans hcl
      have hRr := hR.block (hb.block q hR.1.lt)
      have hpt := pathC_take cs k (by rw [← HN.out]; exact hlt)
      have hlen1 := pathC_len (cs.take k) (fun c hc => HK.out.1 c (List.mem_of_mem_take hc))
      rw [List.length_take] at hlen1
      have hlen2 := pathOf_len (cs.getD k [])
      have hpos := pathOf_pos hck.1 hck.2.2.2
      have hc6 := hck.2.1
      obtain ⟨C, hC⟩ : ∃ C, C = cs.getD k [] := ⟨_, rfl⟩
      rw [← hC] at hck hRr hpt hlen2 hpos hcc hc6 d0
      obtain ⟨m, hm⟩ : ∃ m, m = C.length := ⟨_, rfl⟩
      rw [← hm] at d0 hcc hlen2 hc6
      have HP := Lib.hid (pathOf_any B q m c' C wr hm hRr hcc hck)
      have HX := Lib.hid (And.intro hS (And.intro hb hpt))
      clear hS hcl hR hmem hck hRr hpt hC hm hcc
      go_wp2_with fail
      refine HP.out.mono ?_
      rintro e Q ⟨v2, rfl, hS2, hbQ⟩
      have HY := Lib.hid (And.intro (HX.out.1.below hbQ) (And.intro (sgs_mono hS2 HX.out.2.1.size) (HX.out.2.1.trans (hbQ.mono HX.out.2.1.size))))
      clear hS2 hbQ
      have hBQ := HY.out.2.2.size
      go_wp2_with ((with_reducible refine Gate.append ?_); refine app_path rfl rfl rfl rfl HY.out.1 HY.out.2.1 hpos hBQ ⟨by omega, by omega⟩ ?_; intro v' Z hZ hgr hT)
      go_roundw
      case rel => exact ⟨k + 1, by omega, by go_num, HY.out.2.2.grown hgr hBQ (fun b hb => (hT b hb).2), by rw [HX.out.2.2]; exact hZ⟩
      case measure => simp [intOf]; omega
    · obtain rfl : n = k := by omega
      have HF := Lib.hid (And.intro hb hS)
      clear hb hS
      go_wp2_with fail
      go_ret
      exact ⟨_, rfl, by have := HF.out.2; rw [HN.out, List.take_length] at this; exact this, HF.out.1⟩

set_option maxHeartbeats 40000000 in
set_option maxRecDepth 4000 in
theorem path_comp (T : Tys) (hTd : T.dot = 72) (hTr : T.ref = 69) (B lb l lc X : Nat) (Gs : List Gl) (A3 : Option Addr) (c3 : Nat) (vr : Value) (Rs : List Ref) (w : World) (hX : X < l) (hlG : l = Gs.length) (hl : l ≤ 100) (hv1 : w.cell? ⟨lb, X * 2, none⟩ = some (.slice A3 0 c3)) (hv2 : w.cell? ⟨lb, X * 2 + 1, none⟩ = some vr)
    (hr : Refs T w B vr Rs) (h0 : 0 < Rs.length) (h3 : Rs.length ≤ 3) (hGA : GlyAt T w B lb Gs) (hrok : ∀ r ∈ Rs, RefOk Gs r) (hG : ∀ i, i < l → (Gs.getD i ([], [])).1.length ≤ 3 ∧ ∀ c ∈ (Gs.getD i ([], [])).1, ConOk c) :
    Calls Tryd.prog 10 #[.slice (some ⟨lb, 0, none⟩) l lc, .int .i64 X, .int .i64 0] w (PathP w (pathR Gs Rs)) := by
  obtain ⟨gr, cR, hvr, hRR⟩ : ∃ gr cR, vr = .slice (some ⟨gr, 0, none⟩) Rs.length cR ∧ Row w B gr 69 (Rs.flatMap refc) := by
    rcases hr with ⟨_, h⟩ | ⟨g, c, e, h⟩
    · rw [h] at h0; simp at h0
    · exact ⟨g, c, e, by rw [← hTr]; exact h⟩
  obtain ⟨n, hn⟩ : ∃ n, Rs.length = n := ⟨_, rfl⟩
  rw [hn] at hvr h3 h0
  subst hvr
  have HG := Lib.hid (And.intro hGA (And.intro hrok (And.intro hG (And.intro hlG (And.intro hn hRR)))))
  have hn0 : ((n : Int) == 0) = false := by simp; omega
  have hgl := hRR.1.lt
  clear hGA hrok hG hlG hn hRR hr hTr
  go_enter Tryd.func10, Tryd.ntmps10
  go_wp2_with fail
  have hb1 := bel_made w #[.slice A3 0 c3, .slice (some ⟨gr, 0, none⟩) n cR] 55
  obtain ⟨W1, hW1⟩ : ∃ W1, W1 = w.alloc (.cells #[.slice A3 0 c3, .slice (some ⟨gr, 0, none⟩) n cR] 55) := ⟨_, rfl⟩
  have hs1 : W1.heap.size = w.heap.size + 1 := by rw [hW1, World.size_alloc]
  rw [← hW1] at hb1
  rw [← hW1]
  have hE := sgs_empty (w := W1) (B := w.heap.size) hb1.size
  have hb2 := hb1.trans ((bel_made W1 #[] 89).mono hb1.size)
  obtain ⟨W2, hW2⟩ : ∃ W2, W2 = W1.alloc (.cells #[] 89) := ⟨_, rfl⟩
  rw [← hW2, hs1] at hE
  rw [← hW2] at hb2
  rw [← hW2]
  have HS := Lib.hid (And.intro hb2 hE)
  clear hb1 hb2 hE hW1 hW2 hv1 hv2
  go_loopw [8, 43] (fun v i wr => ∃ k : Nat, k ≤ n ∧ i = .int .i64 k ∧ Below w.heap.size w wr ∧ Sgs wr w.heap.size v (pathR Gs (Rs.take k)) ∧ (pathR Gs (Rs.take k)).length ≤ 24 * k) (fun _ i _ => n - (intOf i).toNat)
  case atStart => exact ⟨0, Nat.zero_le _, rfl, HS.out.1, HS.out.2, by simp [pathR]⟩
  case round =>
    clear HS
    obtain ⟨k, hk, rfl, hb, hS, hlen⟩ := hrel
    by_cases hlt : k < n
    · have hkl : k < Rs.length := by rw [HG.out.2.2.2.2.1]; exact hlt
      have hpt := pathR_take Gs Rs k hkl
      have hmem : Rs.getD k (0, 0, 0, 0, 0) ∈ Rs := getD_mem _ _ _ hkl
      have hro := HG.out.2.1 _ hmem
      obtain ⟨r, hre⟩ : ∃ r, r = Rs.getD k (0, 0, 0, 0, 0) := ⟨_, rfl⟩
      have hRr := HG.out.2.2.2.2.2.block (hb.block gr hgl)
      have r0 := at_flat refc_len (0, 0, 0, 0, 0) hRr.2.1 (i := k) (r := 0) hkl (by omega) (u := .int .i64 r.1) (by rw [← hre]; rfl)
      have r1 := at_flat refc_len (0, 0, 0, 0, 0) hRr.2.1 (i := k) (r := 1) hkl (by omega) (u := .int .i64 r.2.1) (by rw [← hre]; rfl)
      have r2 := at_flat refc_len (0, 0, 0, 0, 0) hRr.2.1 (i := k) (r := 2) hkl (by omega) (u := .int .i64 r.2.2.1) (by rw [← hre]; rfl)
      have r3 := at_flat refc_len (0, 0, 0, 0, 0) hRr.2.1 (i := k) (r := 3) hkl (by omega) (u := .int .i64 r.2.2.2.1) (by rw [← hre]; rfl)
      have r4 := at_flat refc_len (0, 0, 0, 0, 0) hRr.2.1 (i := k) (r := 4) hkl (by omega) (u := .int .i64 r.2.2.2.2) (by rw [← hre]; rfl)
      rw [Nat.mul_comm 5 k] at r0 r1 r2 r3 r4
      rw [Nat.add_zero] at r0
      rw [← hre] at hpt hro
      obtain ⟨⟨x, hxe, hxl, hx2⟩, hbx, hby, hsx, hsy⟩ := hro
      obtain ⟨gx, dx, dy, sx, sy⟩ := r
      simp only at r0 r1 r2 r3 r4 hxe hbx hby hsx hsy
      subst hxe
      have hxi : (x : Int) < (l : Int) := by rw [HG.out.2.2.2.1]; omega
      have hxn : ¬ ((l : Int) ≤ (x : Int)) := by omega
      obtain ⟨LL, hLL⟩ : ∃ L, L = pathC (Gs.getD x ([], [])).1 := ⟨_, rfl⟩
      have hGx := HG.out.2.2.1 x (by omega)
      obtain ⟨vc', vr', q1, q2, hGi⟩ := HG.out.1 x hxl
      have hvr0 : ∃ A4 c4, vr' = .slice A4 0 c4 := by
        rcases hGi.2 with ⟨e, _⟩ | ⟨g, c, e, _⟩
        · exact ⟨none, 0, e⟩
        · rw [hx2] at e; exact ⟨_, c, e⟩
      obtain ⟨A4, c4, rfl⟩ := hvr0
      have hLo := pathC_ok hGx.2
      have hLl := pathC_len _ hGx.2
      rw [← hLL] at hLo hLl
      have HP : Hid (∀ W, Below w.heap.size w W → Calls Tryd.prog 10 #[.slice (some ⟨lb, 0, none⟩) l lc, .int .i64 x, .int .i64 1] W (PathP W LL)) := Lib.hid (fun W hbW => by
        rw [hLL]
        exact path_simple T hTd B lb l lc x 1 vc' _ A4 c4 W (by omega) hl (by rw [hbW.cell (World.block_lt_of_cell? w _ q1)]; exact q1) (by rw [hbW.cell (World.block_lt_of_cell? w _ q2)]; exact q2) (hGi.1.same (Same.below hbW)) hGx.1 hGx.2)
      have hpt2 : pathR Gs (Rs.take (k + 1)) = pathR Gs (Rs.take k) ++ LL.map (PthA.trans ((x : Int), dx, dy, sx, sy)) := by rw [hpt, hLL]; rfl
      have hLl2 : LL.length ≤ 24 := by have := hGx.1; omega
      have HX := Lib.hid (And.intro hS (And.intro hb (And.intro hpt2 hLo)))
      clear hS hpt hmem hre hRr hLL hGx q1 q2 hGi hLo hpt2 hLl hkl hx2 hxl
      go_upto_region 13 with (fail)
      have hbX := bel_made wr #[.int .i64 (x : Int), .int .i64 dx, .int .i64 dy, .int .i64 sx, .int .i64 sy] 69
      have hBX := Blk.new_ wr #[.int .i64 (x : Int), .int .i64 dx, .int .i64 dy, .int .i64 sx, .int .i64 sy] 69
      obtain ⟨X1, hX1⟩ : ∃ X1, X1 = wr.alloc (.cells #[.int .i64 (x : Int), .int .i64 dx, .int .i64 dy, .int .i64 sx, .int .i64 sy] 69) := ⟨_, rfl⟩
      rw [← hX1] at hbX hBX
      rw [← hX1]
      obtain ⟨br, hbr⟩ : ∃ br, br = wr.heap.size := ⟨_, rfl⟩
      rw [← hbr] at hBX
      try rw [← hbr]
      have e0 := hBX.cell (i := 0) rfl
      have HX1 := Lib.hid (And.intro (HX.out.1.below hbX) (And.intro (HX.out.2.1.trans (hbX.mono HX.out.2.1.size)) hBX))
      clear hX1 hbX hBX hbr r0 r1 r2 r3 r4
      go_wp2_with fail
      refine (HP.out X1 HX1.out.2.1).mono ?_
      rintro e Q ⟨v61, rfl, hS61, hbQ⟩
      obtain ⟨A6, c6, hv6, hat6⟩ := sgs_at hS61
      have hBr := HX1.out.2.2.keep hbQ
      have hSQ := HX1.out.1.below hbQ
      have hdQ := HX1.out.2.1.trans (hbQ.mono HX1.out.2.1.size)
      have hne0 : ∀ g, v61.ownBlock = some g → u8.ownBlock ≠ some g := fun g hg e => by
        have h1 := (own_isT hS61.choose_spec.1 hg).2
        have h2 := own_lt HX1.out.1.choose_spec.1 e
        omega
      obtain ⟨NL, hNL⟩ : ∃ N, LL.length = N := ⟨_, rfl⟩
      rw [hNL] at hv6 hLl2
      have hX1s := HX1.out.2.1.size
      have hQs := hbQ.size
      have HQ := Lib.hid (And.intro hS61 (And.intro hBr (And.intro hSQ (And.intro hdQ (And.intro hne0 hNL)))))
      have hv6' := hv6
      subst hv6
      clear hS61 hBr hSQ hdQ hne0 hbQ hNL hat6 e0
      go_wp2_with fail
      go_loopw [8, 63] (fun v i wj => ∃ j : Nat, j ≤ NL ∧ i = .int .i64 j ∧ Below w.heap.size w wj ∧ Sgs wj w.heap.size v (pathR Gs (Rs.take k) ++ (LL.take j).map (PthA.trans ((x : Int), dx, dy, sx, sy))) ∧ Sgs wj X1.heap.size (.slice A6 NL c6) LL ∧ Blk br 69 [.int .i64 (x : Int), .int .i64 dx, .int .i64 dy, .int .i64 sx, .int .i64 sy] wj ∧ (∀ g, (Value.slice A6 NL c6).ownBlock = some g → v.ownBlock ≠ some g) ∧ X1.heap.size ≤ wj.heap.size) (fun _ i _ => NL - (intOf i).toNat)
      case atStart => exact ⟨0, Nat.zero_le _, rfl, HQ.out.2.2.2.1, by rw [List.take_zero, List.map_nil, List.append_nil]; exact HQ.out.2.2.1, HQ.out.1, HQ.out.2.1, HQ.out.2.2.2.2.1, hQs⟩
      case round =>
        obtain ⟨j, hj, rfl, hb2, hS2, hS6, hBr, hne, hsz⟩ := hrel
        obtain ⟨wj, hwj⟩ : ∃ W, W = wr := ⟨_, rfl⟩
        subst hwj
        by_cases hltj : j < NL
        · obtain ⟨A', c', he, hat⟩ := sgs_at hS6
          injection he with ea en ec
          subst ea ec
          obtain ⟨g6, q, cq, hA6, s0, s1, hRq⟩ := hat j (by rw [← en]; exact hltj)
          subst hA6
          have hmj : LL.getD j (0, []) ∈ LL := getD_mem _ _ _ (by rw [← en]; exact hltj)
          have hso := HX.out.2.2.2 _ hmj
          have htk : LL.take (j + 1) = LL.take j ++ [LL.getD j (0, [])] := by
            rw [List.take_succ_eq_append_getElem (by rw [← en]; exact hltj), List.getD_eq_getElem?_getD, List.getElem?_eq_getElem (by rw [← en]; exact hltj)]
            rfl
          obtain ⟨sg, hsg⟩ : ∃ sg, sg = LL.getD j (0, []) := ⟨_, rfl⟩
          rw [← hsg] at s0 s1 hRq hso htk
          obtain ⟨op, ps⟩ := sg
          simp only at s0 s1 hRq
          obtain ⟨na, hna⟩ : ∃ na, ps.length = na := ⟨_, rfl⟩
          rw [hna] at s1
          have hna2 : 0 < na ∧ na ≤ 2 := by
            rw [← hna]
            rcases hso.1 with ⟨_, h⟩ | ⟨_, h⟩ | ⟨_, h⟩
            · simp only at h; omega
            · simp only at h; omega
            · simp only at h; omega
          have HJ := Lib.hid (And.intro hb2 (And.intro hS2 (And.intro hS6 (And.intro hBr (And.intro hne (And.intro hRq (And.intro hso.2 (And.intro htk (And.intro hna en)))))))))
          clear hb2 hS2 hS6 hBr hne hRq hso htk hna en hat hmj hsg
          go_wp2_with fail
          have hb3 := (bel_made wj #[.int .i64 op, .slice (some ⟨q, 0, none⟩) na cq] 89).alloc (by simp) (.cells #[.int .i64 op, .slice none 0 0] 89)
          have hBt := Blk.new_ (wj.alloc (.cells #[.int .i64 op, .slice (some ⟨q, 0, none⟩) na cq] 89)) #[.int .i64 op, .slice none 0 0] 89
          rw [World.size_alloc] at hBt
          obtain ⟨Y, hY⟩ : ∃ Y, Y = (wj.alloc (.cells #[.int .i64 op, .slice (some ⟨q, 0, none⟩) na cq] 89)).alloc (.cells #[.int .i64 op, .slice none 0 0] 89) := ⟨_, rfl⟩
          rw [← hY] at hb3 hBt
          rw [← hY]
          have HY := Lib.hid (And.intro hb3 hBt)
          clear hY hb3 hBt s0 s1
          go_loopw [73] (fun i wq => ∃ (m : Nat) (va : Value), i = .int .i64 m ∧ m ≤ na ∧ Below wj.heap.size wj wq ∧ Blk (wj.heap.size + 1) 89 [.int .i64 op, va] wq ∧ wq.ownsRow wj.heap.size 92 2 va m (((ps.take m).map fun p => (dx + (p.1 * sx).tdiv 4, dy + (p.2 * sy).tdiv 4)).flatMap ptc) ∧ va.oneCell' = true) (fun i _ => na - (intOf i).toNat)
          case atStart => exact ⟨0, _, rfl, Nat.zero_le _, HY.out.1, HY.out.2, World.ownsRow_nil _ _ _ _, rfl⟩
          case round =>
            obtain ⟨m, va, rfl, hm, hbq, hBt, own, h1va⟩ := hrel
            obtain ⟨wq, hwq⟩ : ∃ W, W = wr := ⟨_, rfl⟩
            subst hwq
            by_cases hltm : m < na
            · have hml : m < ps.length := by rw [HJ.out.2.2.2.2.2.2.2.2.1]; exact hltm
              have hRw := HJ.out.2.2.2.2.2.1.block (hbq.block q HJ.out.2.2.2.2.2.1.1.lt)
              have p0 := at_flat ptc_len (0, 0) hRw.2.1 (i := m) (r := 0) hml (by omega) (u := .int .i64 (ps.getD m (0, 0)).1) rfl
              have p1 := at_flat ptc_len (0, 0) hRw.2.1 (i := m) (r := 1) hml (by omega) (u := .int .i64 (ps.getD m (0, 0)).2) rfl
              rw [Nat.mul_comm 2 m] at p0 p1
              rw [Nat.add_zero] at p0
              have hpo := HJ.out.2.2.2.2.2.2.1 _ (getD_mem _ _ (0, 0) hml)
              have htm : ps.take (m + 1) = ps.take m ++ [ps.getD m (0, 0)] := by
                rw [List.take_succ_eq_append_getElem hml, List.getD_eq_getElem?_getD, List.getElem?_eq_getElem hml]
                rfl
              obtain ⟨pp, hpp⟩ : ∃ p, p = ps.getD m (0, 0) := ⟨_, rfl⟩
              rw [← hpp] at p0 p1 hpo htm
              obtain ⟨px, py⟩ := pp
              obtain ⟨⟨hpx, _⟩, hpy, _⟩ := hpo
              simp only at p0 p1 hpx hpy
              have b1 := mulb hpx hsx
              have b2 := mulb hpy hsy
              obtain ⟨P1, hP1⟩ : ∃ P, px * sx = P := ⟨_, rfl⟩
              obtain ⟨P2, hP2⟩ : ∃ P, py * sy = P := ⟨_, rfl⟩
              rw [hP1] at b1
              rw [hP2] at b2
              have t1 := tdiv4 b1
              have t2 := tdiv4 b2
              obtain ⟨T1, hT1⟩ : ∃ P, P1.tdiv 4 = P := ⟨_, rfl⟩
              obtain ⟨T2, hT2⟩ : ∃ P, P2.tdiv 4 = P := ⟨_, rfl⟩
              rw [hT1] at t1
              rw [hT2] at t2
              have z1 : IntKind.i64.wrap P1 = P1 := IntWalk.i64_in _ (by omega)
              have z2 : IntKind.i64.wrap P2 = P2 := IntWalk.i64_in _ (by omega)
              have z3 : IntKind.i64.wrap T1 = T1 := IntWalk.i64_in _ (by omega)
              have z4 : IntKind.i64.wrap T2 = T2 := IntWalk.i64_in _ (by omega)
              have z5 : IntKind.i64.wrap (dx + T1) = dx + T1 := IntWalk.i64_in _ (by omega)
              have z6 : IntKind.i64.wrap (dy + T2) = dy + T2 := IntWalk.i64_in _ (by omega)
              have HM := Lib.hid (And.intro htm (And.intro hbq (And.intro hBt own)))
              clear htm hbq hBt own hml hRw hpp
              go_upto_region 21 with (fail)
              have hbZ := bel_made wq #[.int .i64 px, .int .i64 py] 92
              have hBp := Blk.new_ wq #[.int .i64 px, .int .i64 py] 92
              obtain ⟨Z0, hZ0⟩ : ∃ Z, Z = wq.alloc (.cells #[.int .i64 px, .int .i64 py] 92) := ⟨_, rfl⟩
              rw [← hZ0] at hbZ hBp
              rw [← hZ0]
              have hbq0 := HM.out.2.1.trans (hbZ.mono HM.out.2.1.size)
              have hBt0 := HM.out.2.2.1.keep hbZ
              have y0 := hBp.cell (i := 0) rfl
              have y1 := hBp.cell (i := 1) rfl
              have x1 := hBt0.cell (i := 1) rfl
              have hBr0 := HJ.out.2.2.2.1.keep hbq0
              have v1 := hBr0.cell (i := 1) rfl
              have v2 := hBr0.cell (i := 2) rfl
              have v3 := hBr0.cell (i := 3) rfl
              have v4 := hBr0.cell (i := 4) rfl
              have HZ := Lib.hid (And.intro hbq0 (And.intro hBt0 (own_keep HM.out.2.2.2 hbZ)))
              have hBs := hbq0.size
              clear hZ0 hbZ hBp hbq0 hBt0 hBr0 p0 p1
              go_wp2_with ((with_reducible refine Gate.append ?_); refine app_pt rfl rfl rfl rfl HZ.out.2.2 hBs (by omega) ?_; intro gv cv Z own' hgr hT; have hBt' := blk_grown HZ.out.2.1 hgr (fun e => ((hT _ e).1.ne ⟨_, HZ.out.2.1⟩ (by decide)) rfl); have cb := hBt'.cell (i := 1) rfl; have cf := hBt'.frozen)
              go_roundw
              case rel => exact ⟨m + 1, _, by go_num, by omega, (HZ.out.1.grown hgr hBs (fun b hb => (hT b hb).2)).setCell (p := ⟨wj.heap.size + 1, 1, none⟩) (by simp) _, hBt'.set_ 1 _, by
                rw [HM.out.1, List.map_append, List.flatMap_append]
                simp only [List.map_cons, List.map_nil, List.flatMap_cons, List.flatMap_nil, List.append_nil, ptc, hP1, hP2, hT1, hT2]
                exact own_block own' (fun g hg => Below.heap_setCell _ _ _ _ (fun e => ((own_isT own' hg).1.ne ⟨_, hBt'⟩ (by decide)) e)), rfl⟩
              case measure => simp [intOf]; omega
            · obtain rfl : na = m := by omega
              have hpl := HJ.out.2.2.2.2.2.2.2.2.1
              rw [← hpl, List.take_length] at own
              obtain ⟨qv, cv, hv, hAv, _, _, hBv⟩ := open_row own (fun h => by
                rcases own.2 with ⟨_, h2⟩ | ⟨_, _, _, h2, _⟩
                · omega
                · rw [h] at h2; cases h2)
              subst hv
              rw [hpl] at own
              have hRv : Row wq w.heap.size qv 92 ((ps.map fun p => (dx + (p.1 * sx).tdiv 4, dy + (p.2 * sy).tdiv 4)).flatMap ptc) := ⟨(own_isT own rfl).1, hAv, Nat.le_trans HJ.out.1.size hBv⟩
              have hpm : ps.length = (ps.map fun p => (dx + (p.1 * sx).tdiv 4, dy + (p.2 * sy).tdiv 4)).length := by rw [List.length_map]
              have HPM := Lib.hid hpm
              clear hpm hpl
              have hSw := HJ.out.2.1.below hbq
              have hdw := HJ.out.1.trans (hbq.mono HJ.out.1.size)
              have b0 := hBt.cell (i := 0) rfl
              have b1 := hBt.cell (i := 1) rfl
              have hll : (pathR Gs (Rs.take k) ++ (LL.take j).map (PthA.trans ((x : Int), dx, dy, sx, sy))).length ≤ 1000 := by rw [List.length_append, List.length_map, List.length_take]; omega
              have HW := Lib.hid (And.intro hSw (And.intro hRv (And.intro hdw hbq)))
              have hBw := hdw.size
              clear hSw hRv hdw hbq hBt own hAv
              go_wp2_with ((with_reducible refine Gate.append ?_); refine app_segR HPM.out rfl rfl rfl rfl HW.out.1 HW.out.2.1 hBw hll ?_; intro v' Z hZ hgr hT hat')
              go_roundw
              case rel => exact ⟨j + 1, by omega, by go_num, HW.out.2.2.1.grown hgr hBw (fun b hb => (hT b hb).2), by
                rw [HJ.out.2.2.2.2.2.2.2.1, List.map_append, ← List.append_assoc]
                exact hZ, sgs_far (HJ.out.2.2.1.below HW.out.2.2.2) hgr hT HJ.out.2.2.2.2.1, blk_grown (HJ.out.2.2.2.1.keep HW.out.2.2.2) hgr (fun e => ((hT br e).1.ne ⟨_, HJ.out.2.2.2.1.keep HW.out.2.2.2⟩ (by decide)) rfl), fun g hg e => by
                rcases hat' g e with h | h
                · exact HJ.out.2.2.2.2.1 g hg h
                · have h1 := own_lt HJ.out.2.2.1.choose_spec.1 hg
                  have h2 := HW.out.2.2.2.size
                  omega, Nat.le_trans hsz (Nat.le_trans HW.out.2.2.2.size hgr.size)⟩
              case measure => simp [intOf]; omega
        · obtain rfl : NL = j := by omega
          have hfin : LL.take NL = LL := by rw [← HQ.out.2.2.2.2.2, List.take_length]
          rw [hfin, ← HX.out.2.2.1] at hS2
          have hlf : (pathR Gs (Rs.take (k + 1))).length ≤ 24 * (k + 1) := by rw [HX.out.2.2.1, List.length_append, List.length_map, HQ.out.2.2.2.2.2]; omega
          have HF := Lib.hid (And.intro hb2 hS2)
          clear hb2 hS2 hS6 hBr hne hfin
          go_wp2_with fail
          go_roundw
          case rel => exact ⟨k + 1, by omega, by go_num, HF.out.1, HF.out.2, hlf⟩
          case measure => simp [intOf]; omega
    · obtain rfl : n = k := by omega
      have HF := Lib.hid (And.intro hb hS)
      clear hb hS
      go_wp2_with fail
      go_ret
      exact ⟨_, rfl, by have := HF.out.2; rw [← HG.out.2.2.2.2.1, List.take_length] at this; exact this, HF.out.1⟩
end Go.Proofs.YtdeaodgcdacleaaDoor.PthQ
