/- The statement on where a glyph's x's and y's begin: the walk of its text. -/
import Derived.Test.YtdeaodgcdacleaaMadB
import Derived.Test.YtdeaodgcdacleaaDatA
import Derived.Test.YtdeaodgcdacleaaIdxC
import Derived.Test.YtdeaodgcdacleaaGate
namespace Go.Proofs.Ytdeaodgcdacleaa.IdxW
open Go.ChangeShapes Go.WideShapes Go.ChangeAt Go.RowKit
open Lst Mem RowG GlyM GlyN GlyO MadN MadL MadF DatE
set_option linter.unusedSimpArgs false
set_option linter.unusedVariables false

theorem few_any (a0 a1 : Option Addr) (n c0 m c1 : Nat) (w : World) : Calls Try.prog 4 #[.slice a0 n c0, .slice a1 m c1, .slice none 0 0] w fun e w' => e = .returned (.bool (decide (n ≤ 100 ∧ m ≤ 1000))) ∧ w = w' := by
  by_cases h1 : n ≤ 100
  · have h1i : (n : Int) ≤ 100 := by omega
    by_cases h2 : m ≤ 1000
    · have h2i : (m : Int) ≤ 1000 := by omega
      rw [decide_eq_true (show n ≤ 100 ∧ m ≤ 1000 from ⟨h1, h2⟩)]
      go_enter Try.func4, Try.ntmps4
      go_wp2
      go_ret
      exact ⟨rfl, rfl⟩
    · have h2i : ¬ (m : Int) ≤ 1000 := by omega
      rw [decide_eq_false (show ¬ (n ≤ 100 ∧ m ≤ 1000) from fun h => h2 h.2)]
      go_enter Try.func4, Try.ntmps4
      go_wp2
      go_ret
      exact ⟨rfl, rfl⟩
  · have h1i : ¬ (n : Int) ≤ 100 := by omega
    rw [decide_eq_false (show ¬ (n ≤ 100 ∧ m ≤ 1000) from fun h => h1 h.1)]
    go_enter Try.func4, Try.ntmps4
    go_wp2
    go_ret
    exact ⟨rfl, rfl⟩

theorem al_any {t : TypeId} {zs : List Value} {ops : Array Oper} {rest : List Oper} {o : Oper} {a : Act} {w : World} {Q : Exit → Act → World → Prop} (hgd : o.guard = none) (ho : o.op = .alloc t) (hz : (zeroValue t).run Try.prog w = .ok (.agg zs.toArray) w)
    (h : ∀ Z, w.alloc (.cells zs.toArray t) = Z → wpList Try.prog ops Q rest (a.put o.dst (.pointer (some ⟨w.heap.size, 0, none⟩))) Z) : wpList Try.prog ops Q (o :: rest) a w := by
  refine wpList_plain hgd fun K hK => ?_
  unfold Oper.wp execOp
  simp only [ho]
  have := hK _ _ (h _ rfl)
  clear h hK
  go_simp
  exact this
theorem made_zero (w : World) : (zeroValue 35).run Try.prog w = .ok (.agg mz.toArray) w := by kernel_rfl
theorem glyph_zero (w : World) : (zeroValue 40).run Try.prog w = .ok (.agg #[.slice none 0 0, .slice none 0 0]) w := by kernel_rfl
theorem glyph_info : (Try.prog.info? 40).map (·.size) = some 2 := by kernel_rfl
theorem made_info : (Try.prog.info? 35).map (·.size) = some 28 := by kernel_rfl

set_option maxHeartbeats 20000000 in
theorem walk (f x : Int) (SA A : Option Addr) (l lc m cap : Nat) (ss ms : List Int) (w : World) (hf : 0 ≤ f ∧ f ≤ 4294967295) (hx : 0 ≤ x ∧ x ≤ 255) (hl : l = ss.length) (hl2 : l ≤ 100) (hlc : l ≤ lc) (hsr : ∀ x ∈ ss, 0 ≤ x ∧ x ≤ 4294967295) (hsh : 0 < l → ∃ b off, SA = some ⟨b, off, none⟩ ∧ b < w.heap.size ∧ At w b off (vals .u32 ss)) (hs : Src w A m ms) :
    Calls Try.prog 3 #[.int .u32 f, .slice SA l lc, .slice A m cap, .int .u8 x] w fun e w' => e = .returned (.bool true) ∧ Below w.heap.size w w' := by
  obtain ⟨wa, hwa⟩ : ∃ wa : Nat, (f / 64).tmod 4 = (wa : Int) := ⟨((f / 64).tmod 4).toNat, by have := Int.tmod_nonneg (a := f / 64) 4 (by omega); omega⟩
  have hwa3 : wa ≤ 3 := by have := Int.tmod_lt_of_pos (f / 64) (b := 4) (by omega); omega
  have hm := hs.2.1
  have HM := Lib.hid (MadB.made_any f SA A l lc m cap ss ms w hf hl hl2 hlc hsr hsh hs wa hwa)
  have hfew := few_any SA A l lc m cap w
  rw [decide_eq_true (show l ≤ 100 ∧ m ≤ 1000 from ⟨hl2, hm⟩)] at hfew
  have HFW := Lib.hid hfew
  clear hl hlc hsr hsh hs hwa hf hfew
  go_enter Try.func3, Try.ntmps3
  go_wp2_with fail
  refine HFW.out.mono ?_
  rintro e w1 ⟨rfl, rfl⟩
  go_wp2_with fail
  refine HM.out.mono ?_
  rintro e W1 ⟨cs, Gs, GA, gc, rfl, hlen, hc1, hc27, hN0, hN9, hGs, hgl, hbel, hone⟩
  dsimp only
  repeat (first | ((with_reducible refine Gate.alloc (t := 35) ?_); refine al_any rfl rfl (made_zero _) ?_; intro Z2 hZ2; have hz : Blk W1.heap.size 35 mz Z2 := by (rw [← hZ2]; exact Blk.new_ W1 mz.toArray 35)) | ((with_reducible refine Gate.store (t := 35) ?_); refine MadH.st_row_eq rfl 35 _ _ rfl W1.heap.size cs.toArray rfl rfl 35 mz.toArray hz (by rw [made_info]; simp [hlen]) (by simp [hlen]; rfl) (by simpa using hone) ?_; intro Z hZ) | go_values | go_skip | go_guarded | go_step | go_upon | go_back)
  have hd2 : Below w.heap.size w Z2 := hbel.trans (by rw [← hZ2]; exact (bel_made _ _ _).mono hbel.size)
  have hd3 : Below w.heap.size w Z := by rw [← hZ]; exact bel_row hd2 hbel.size
  have hd3b : Below W1.heap.size W1 Z := by rw [← hZ]; exact bel_row (by rw [← hZ2]; exact bel_made _ _ _) (Nat.le_refl _)
  have hbZ : Blk W1.heap.size 35 cs Z := by rw [← hZ]; exact blk_row hz _
  have hglZ := hgl.below hd3b
  obtain ⟨mb, hmb⟩ : ∃ mb, mb = W1.heap.size := ⟨_, rfl⟩
  rw [← hmb] at hbZ
  try rw [← hmb]
  have cN := hbZ.cell hc1
  have cW := hbZ.cell hc27
  obtain ⟨A2, c2, he, hat⟩ := hglZ.at_
  injection he with ea en ec
  subst ea ec
  obtain ⟨N, hN⟩ : ∃ N, N = Gs.length := ⟨_, rfl⟩
  rw [← hN] at hN0 hN9 cN hat
  have HN := Lib.hid hN
  clear hN
  obtain ⟨b, rfl, hbl, hGA⟩ := hat hN0
  obtain ⟨k, hk⟩ : ∃ k : Nat, x.tmod (N : Int) = (k : Int) := ⟨(x.tmod (N : Int)).toNat, by have := Int.tmod_nonneg (a := x) (N : Int) (by omega); omega⟩
  have hkN : k < N := by have := Int.tmod_lt_of_pos x (b := (N : Int)) (by omega); omega
  have wx : IntKind.i64.wrap x = x := IntWalk.i64_in _ (by omega)
  have wk : IntKind.i64.wrap (k : Int) = (k : Int) := IntWalk.i64_in _ (by omega)
  have hN3 : ((N : Int) == 0) = false := by simp; omega
  have hN1 : ¬ (N = 0) := by omega
  obtain ⟨vc, vr, hvc, hvr, hG⟩ := hGA k (by rw [← HN.out]; exact hkN)
  have hok := hGs k (by rw [← HN.out]; exact hkN)
  obtain ⟨G, hGe⟩ : ∃ G, G = Gs.getD k ([], []) := ⟨_, rfl⟩
  rw [← hGe] at hG hok
  have H1 := Lib.hid (And.intro hd3 (And.intro hG hok))
  have H2 := Lib.hid (And.intro hbZ hglZ)
  clear hd2 hd3 hd3b hbZ hglZ hZ hZ2 hz hG hok hGe hGA hGs hgl hbel hone hlen hc1 hc27 hmb HM HFW hat
  obtain ⟨VA, cc, hvcf⟩ : ∃ VA cc, vc = .slice VA G.1.length cc := by
    rcases H1.out.2.1.1 with ⟨e, h⟩ | ⟨g, c, e, _⟩
    · exact ⟨none, 0, by rw [e, h]; rfl⟩
    · exact ⟨_, c, e⟩
  obtain ⟨n, hn⟩ : ∃ n, n = G.1.length := ⟨_, rfl⟩
  rw [← hn] at hvcf
  subst hvcf
  obtain ⟨VR, cr, hvrf⟩ : ∃ VR cr, vr = .slice VR G.2.length cr := by
    rcases H1.out.2.1.2 with ⟨e, h⟩ | ⟨g, c, e, _⟩
    · exact ⟨none, 0, by rw [e, h]; rfl⟩
    · exact ⟨_, c, e⟩
  obtain ⟨nr, hnr⟩ : ∃ n, n = G.2.length := ⟨_, rfl⟩
  rw [← hnr] at hvrf
  subst hvrf
  have HNN := Lib.hid (And.intro hn hnr)
  clear hn hnr
  by_cases hn0 : n = 0
  · subst hn0
    go_wp2_with fail
    go_ret
    exact ⟨rfl, H1.out.1.trans ((bel_made Z _ _).mono H1.out.1.size)⟩
  have hn0b : ((n : Int) == 0) = false := by simp; omega
  have hn0p : 0 < n := by omega
  go_wp2_with fail
  have hd2 := bel_made Z #[.slice VA n cc, .slice VR nr cr] 40
  have hbG := Blk.new_ Z #[.slice VA n cc, .slice VR nr cr] 40
  obtain ⟨Z5, hZ5⟩ : ∃ Z5, Z5 = Z.alloc (.cells #[.slice VA n cc, .slice VR nr cr] 40) := ⟨_, rfl⟩
  rw [← hZ5] at hd2 hbG
  rw [← hZ5]
  obtain ⟨gb, hgb⟩ : ∃ gb, gb = Z.heap.size := ⟨_, rfl⟩
  rw [← hgb] at hbG
  rw [← hgb]
  have H3 := Lib.hid (And.intro (H1.out.1.trans (hd2.mono H1.out.1.size)) (And.intro (H1.out.2.1.same (Same.below hd2)) (And.intro (H2.out.1.keep hd2) (And.intro (H2.out.2.below hd2) hbG))))
  have h3n : n ≤ 3 := by
    rw [HNN.out.1]
    rcases H1.out.2.2 with h | h
    · exact h.2.1
    · rw [h.1]; simp
  have HCO : Hid (∀ c ∈ G.1, ConOk c) := Lib.hid (by
    rcases H1.out.2.2 with h | h
    · exact h.2.2
    · rw [h.1]; intro c hc; cases hc)
  have HR0 : nr = 0 := by
    rcases H1.out.2.2 with h | h
    · rw [HNN.out.2, h.1]; rfl
    · have := HNN.out.1; rw [h.1] at this; simp at this; omega
  subst HR0
  have hvc5 : Z5.cell? ⟨b, k * 2, none⟩ = some (.slice VA n cc) := by rw [hd2.cell (World.block_lt_of_cell? Z _ hvc)]; exact hvc
  have hvr5 : Z5.cell? ⟨b, k * 2 + 1, none⟩ = some (.slice VR 0 cr) := by rw [hd2.cell (World.block_lt_of_cell? Z _ hvr)]; exact hvr
  have cN5 : Z5.cell? ⟨mb, 1, none⟩ = some (.slice (some ⟨b, 0, none⟩) N gc) := by rw [hd2.cell (World.block_lt_of_cell? Z _ cN)]; exact cN
  have cW5 : Z5.cell? ⟨mb, 27, none⟩ = some (.int .i64 wa) := by rw [hd2.cell (World.block_lt_of_cell? Z _ cW)]; exact cW
  have cG0 := hbG.cell (i := 0) rfl
  obtain ⟨g, hVA, hcon⟩ : ∃ g, VA = some ⟨g, 0, none⟩ ∧ ∀ i, i < G.1.length → ∃ q c', Z5.cell? ⟨g, i, none⟩ = some (.slice (some ⟨q, 0, none⟩) (G.1.getD i []).length c') ∧ Row Z5 w.heap.size q T.dot ((G.1.getD i []).flatMap dotc) := by
    rcases H3.out.2.1.1 with ⟨h, _⟩ | ⟨g, c, h, _, _, h2⟩
    · injection h with _ h _; omega
    · injection h with h _ _; exact ⟨g, h, h2⟩
  subst hVA
  have HC := Lib.hid hcon
  have HV := Lib.hid (And.intro hvc5 hvr5)
  clear hd2 hbG hZ5 hgb cN cW hvc hvr H1 hcon hvc5 hvr5
  go_loop [12, 56] (fun t i => ∃ j : Nat, j ≤ n ∧ i = .int .i64 j ∧ t = .int .i64 (dots (G.1.take j))) (fun _ i => n - (intOf i).toNat)
  case atStart => exact ⟨0, Nat.zero_le _, rfl, by simp [dots]⟩
  case round =>
    obtain ⟨j, hj, rfl, rfl⟩ := hrel
    by_cases hlt : j < n
    · obtain ⟨q, cq, a1, _⟩ := HC.out j (by rw [← HNN.out.1]; exact hlt)
      have hdt := dots_take G.1 j (by rw [← HNN.out.1]; exact hlt)
      obtain ⟨M, hM⟩ : ∃ M, M = (G.1.getD j []).length := ⟨_, rfl⟩
      have hM6 : M ≤ 6 := by rw [hM]; exact (HCO.out _ (getD_mem _ _ _ (by rw [← HNN.out.1]; exact hlt))).2.1
      have hdl := dots_le (G.1.take j) (fun c hc => HCO.out c (List.mem_of_mem_take hc))
      rw [List.length_take] at hdl
      obtain ⟨D, hD⟩ : ∃ D, D = dots (G.1.take j) := ⟨_, rfl⟩
      rw [← hM] at a1 hdt
      rw [← hD] at hdt hdl
      try rw [← hD]
      have hD18 : D ≤ 18 := by omega
      have wD : IntKind.i64.wrap ((D : Int) + (M : Int)) = (D : Int) + (M : Int) := IntWalk.i64_in _ (by omega)
      have HDT := Lib.hid hdt
      clear hdt hM hD
      go_wp2
      go_round
      case rel => exact ⟨j + 1, by omega, by go_num, by rw [HDT.out]; rfl⟩
      case measure => simp [intOf]; omega
    · obtain rfl : n = j := by omega
      obtain ⟨D, hD⟩ : ∃ D, D = dots (G.1.take n) := ⟨_, rfl⟩
      have hdl := dots_le (G.1.take n) (fun c hc => HCO.out c (List.mem_of_mem_take hc))
      rw [List.length_take] at hdl
      rw [← hD] at hdl
      try rw [← hD]
      have hD18 : D ≤ 18 := by omega
      have HD : Hid (D = dots G.1) := Lib.hid (by rw [hD, HNN.out.1, List.take_length])
      clear hdl hD cG0
      go_wp2_with fail
      go_at_call 6
      refine (DatA.data_any T w.heap.size b N gc k wa _ G.1 VR cr Z5 hkN (by omega) hwa3 HV.out.1 HV.out.2 H3.out.2.1.1 (by rw [← HNN.out.1]; omega) (by rw [← HNN.out.1]; omega) HCO.out).mono ?_
      rintro e Z6 ⟨⟨v, bs, rfl, hown, hcod, hbl⟩, hb6⟩
      obtain ⟨g2, cp2, hv2, hAt, _, hg2l, _⟩ := open_row hown.1 hown.2.1
      subst hv2
      have hbyt := hown.2.2
      obtain ⟨q, X, Y, hfl, hsum, hpq⟩ : ∃ q X Y, IdxB.Fl bs (12 + 2 * n) D q X Y ∧ q + X + Y = bs.length ∧ 12 + 2 * n ≤ bs.length := by
        obtain ⟨a, b, c, d, rl, fs, xs, ys, e, hRf, hEnc, _⟩ := hcod
        rw [← HNN.out.1] at hRf
        obtain ⟨l1, l2, l3⟩ := hEnc.len
        have h1 := (hRf.app (xs ++ ys)).fl
        rw [l1, dots_flat, ← HD.out, ← l2, ← l3] at h1
        have hle : (Head a b c d G.1).length = 12 + 2 * n := by rw [head_len, HNN.out.1]
        refine ⟨12 + 2 * n + rl.length, xs.length, ys.length, ?_, ?_, ?_⟩
        · rw [e, List.append_assoc (Head a b c d G.1 ++ rl)]; exact h1
        · rw [e]; simp only [List.length_append, hle]; try omega
        · rw [e]; simp only [List.length_append, hle]; omega
      obtain ⟨Nb, hNb⟩ : ∃ Nb, Nb = bs.length := ⟨_, rfl⟩
      rw [← hNb] at hbl hsum hpq
      try rw [← hNb]
      have HB6 := Lib.hid (And.intro hb6 (And.intro hAt (And.intro hfl (And.intro hbyt hNb))))
      have cG6 := (H3.out.2.2.2.2.keep hb6).cell (i := 0) rfl
      clear hown hcod hAt hfl hbyt hNb hb6 cN5 cW5
      have hBg := IdxB.begins_any g2 D cp2 (12 + 2 * n) Nb q X Y bs Z6 HB6.out.2.2.2.2 HB6.out.2.1 HB6.out.2.2.2.1 HB6.out.2.2.1 (by omega) (by omega) hpq
      have hIm := fun W (hb : Below Z6.heap.size Z6 W) => IdxC.impl_any g2 D cp2 (12 + 2 * n) Nb q X Y bs W HB6.out.2.2.2.2 (fun j u hu => (hb.cell (p := ⟨g2, 0 + j, none⟩) hg2l).trans (HB6.out.2.1 j u hu)) HB6.out.2.2.2.1 HB6.out.2.2.1 (by omega) (by omega) hpq (by omega)
      rw [show ((12 + 2 * n : Nat) : Int) = 12 + 2 * (n : Int) from by omega] at hBg hIm
      have HBG := Lib.hid hBg
      have HIM := Lib.hid hIm
      clear hBg hIm
      go_wp2_with fail
      refine HBG.out.mono ?_
      rintro e Z7 ⟨rfl, rfl⟩
      go_wp2_with fail
      refine (HIM.out _ (Below.refl _ _)).mono ?_
      rintro e Z8 ⟨rfl, hb8⟩
      have HF := Lib.hid (H3.out.1.trans ((HB6.out.1.trans (hb8.mono HB6.out.1.size)).mono H3.out.1.size))
      clear hb8
      go_wp2_with fail
      go_ret
      exact ⟨rfl, HF.out⟩
theorem src_of {k : IntKind} {w : World} {a : Option Addr} {n cap : Nat} {zs : List Int} (h : IsRow k w a n cap zs) (hn : 0 < n) : ∃ b off, a = some ⟨b, off, none⟩ ∧ b < w.heap.size ∧ At w b off (vals k (zs.take n)) := by
  have hr := Rd.of_ints h
  rcases a with _ | ⟨b, off, spot⟩
  · have := (hr.2.2 rfl).1
    omega
  · have hl := h.len
    obtain ⟨u, hu⟩ : ∃ u, (vals k (zs.take n))[0]? = some u := ⟨_, List.getElem?_eq_getElem (by rw [vals_len]; omega)⟩
    have hc := hr.2.1 _ rfl 0 u hu
    have hspot : spot = none := by simpa [Addr.add] using World.cell?_spot hc
    subst hspot
    refine ⟨b, off, rfl, World.block_lt_of_cell? w _ hc, fun j v hv => ?_⟩
    have := hr.2.1 _ rfl j v hv
    rwa [Addr.add_lit] at this

theorem row (f : Int) (a1 : Option Addr) (n1 c1 : Nat) (z1 : List Int) (a2 : Option Addr) (n2 c2 : Nat) (z2 : List Int) (x : Int) (w : World) (hf : (Lit.int .u32 f).wf = true) (w1 : IsRow .u32 w a1 n1 c1 z1) (w2 : IsRow .i16 w a2 n2 c2 z2) (hx : (Lit.int .u8 x).wf = true) :
    Calls Try.prog 3 #[.int .u32 f, .slice a1 n1 c1, .slice a2 n2 c2, .int .u8 x] w fun e w' => e = .returned (.bool true) ∧ Below w.heap.size w w' := by
  by_cases h1 : (2147483647 : Int) < (n1 : Int)
  · clear w1 w2 hf hx
    go_enter Try.func3, Try.ntmps3
    go_wp2
    go_ret
    exact ⟨rfl, Below.refl _ _⟩
  by_cases h2 : (2147483647 : Int) < (n2 : Int)
  · clear w1 w2 hf hx
    go_enter Try.func3, Try.ntmps3
    go_wp2
    go_ret
    exact ⟨rfl, Below.refl _ _⟩
  by_cases h3 : n1 ≤ 100 ∧ n2 ≤ 1000
  · exact walk f x a1 a2 n1 c1 n2 c2 (z1.take n1) (z2.take n2) w (bounds_u32 hf) (bounds_u8 hx) w1.len.symm h3.1 (by rcases w1 with ⟨_, h, h2, _⟩ | ⟨_, _, h, _⟩ <;> omega) (fun y hy => bounds_u32 (w1.wf y hy)) (src_of w1) ⟨w2.len.symm, h3.2, fun y hy => bounds_i16 (w2.wf y hy), src_of w2⟩
  · have hfew := few_any a1 a2 n1 c1 n2 c2 w
    rw [decide_eq_false h3] at hfew
    have HFW := Lib.hid hfew
    clear w1 w2 hf hx hfew
    go_enter Try.func3, Try.ntmps3
    go_wp2_with fail
    refine HFW.out.mono ?_
    rintro e w1 ⟨rfl, rfl⟩
    go_wp2_with fail
    go_ret
    exact ⟨rfl, Below.refl _ _⟩
end Go.Proofs.Ytdeaodgcdacleaa.IdxW
