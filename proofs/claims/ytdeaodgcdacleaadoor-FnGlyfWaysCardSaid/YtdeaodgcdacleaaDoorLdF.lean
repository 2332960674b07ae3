/- Contract of the loading of a glyph of parts: their bytes are read. -/
import Derived.Test.YtdeaodgcdacleaaDoorLdD
import Derived.Test.YtdeaodgcdacleaaDoorRefE
import Derived.Deep.LoopGhost
namespace Go.Proofs.YtdeaodgcdacleaaDoor.LdF
open Go.ChangeShapes Go.WideShapes Go.ChangeAt Go.RowKit
open Lst Mem RowG SpecB GlyM DatE ItC PthA PthC LdA LdB LdC LdS LdD Trn RefE
set_option linter.unusedSimpArgs false
set_option linter.unusedVariables false
theorem parts_inv {Rs : List Ref} {pb : List Int} (h : Parts Rs pb) : ∃ (r : Ref) (rest : List Ref) (more : Bool) (bs tl : List Int), Rs = r :: rest ∧ RefB more r bs ∧ pb = bs ++ tl ∧ (more = false → rest = [] ∧ tl = []) ∧ (more = true → Parts rest tl) := by
  cases h with
  | one h => exact ⟨_, [], false, _, [], rfl, h, by simp, fun _ => ⟨rfl, rfl⟩, fun h => (by cases h)⟩
  | more h h' => exact ⟨_, _, true, _, _, rfl, h, rfl, fun h => (by cases h), fun _ => h'⟩
theorem refb_len {more : Bool} {r : Ref} {bs : List Int} (h : RefB more r bs) : 6 ≤ bs.length := by
  obtain ⟨sm, md, _, _, _, _, rfl⟩ := h
  cases sm <;> simp [words, dxy] <;> omega
theorem parts_len {Rs : List Ref} {pb : List Int} (h : Parts Rs pb) : 6 ≤ pb.length := by
  cases h with
  | one h => exact refb_len h
  | more h h' => have := refb_len h; rw [List.length_append]; omega
theorem cell_ex {bb idx : Nat} {cs : List Value} {W : World} (h : Blk bb BT cs W) (hl : idx < cs.length) : ∃ u, W.cell? ⟨bb, idx, none⟩ = some u := ⟨_, h.cell (List.getElem?_eq_getElem hl)⟩
/-- a part more stands on the stack -/
theorem stk_lay {bd : List Value} {Rs : List Ref} {i : Nat} {ht : Bool} {xx yy : Int} {c : List Value} (h : Stk bd Rs i) (hl : 2 + i * 8 + 8 ≤ bd.length) (hc : c.length = 4 ∨ c.length = 8)
    (h0 : c[0]? = some (.int .u16 (Rs.getD i (0, 0, 0, 0, 0)).1)) (h1 : c[1]? = some (.int .i16 (Rs.getD i (0, 0, 0, 0, 0)).2.1)) (h2 : c[2]? = some (.int .i16 (Rs.getD i (0, 0, 0, 0, 0)).2.2.1)) (h3 : c[3]? = some (.bool ht))
    (h4 : ht = true → c.length = 8 ∧ c[4]? = some (.int .i16 ((Rs.getD i (0, 0, 0, 0, 0)).2.2.2.1 * 4096)) ∧ c[5]? = some (.int .i16 0) ∧ c[6]? = some (.int .i16 0) ∧ c[7]? = some (.int .i16 ((Rs.getD i (0, 0, 0, 0, 0)).2.2.2.2 * 4096)))
    (h5 : ht = false → (Rs.getD i (0, 0, 0, 0, 0)).2.2.2.1 = 4 ∧ (Rs.getD i (0, 0, 0, 0, 0)).2.2.2.2 = 4) : Stk (lay bd (2 + i * 8) c) Rs (i + 1) := fun k hk => by
  by_cases hki : k = i
  · subst hki
    have hg : ∀ j, j < c.length → (lay bd (2 + k * 8) c)[2 + k * 8 + j]? = c[j]? := fun j hj => lay_in c bd _ j (by omega) hj
    have ht8 : ∀ j, j < 8 → (((lay bd (2 + k * 8) c).drop (2 + k * 8)).take 8)[j]? = (lay bd (2 + k * 8) c)[2 + k * 8 + j]? := fun j hj => by
      rw [List.getElem?_take_of_lt hj, List.getElem?_drop]
    refine ⟨ht, xx, yy, ((lay bd (2 + k * 8) c).drop (2 + k * 8)).take 8, ⟨?_, ?_, ?_, ?_, fun h => ?_, h5⟩, fun j hj => (ht8 j hj).symm⟩
    · rw [ht8 0 (by omega), hg 0 (by omega)]; exact h0
    · rw [ht8 1 (by omega), hg 1 (by omega)]; exact h1
    · rw [ht8 2 (by omega), hg 2 (by omega)]; exact h2
    · rw [ht8 3 (by omega), hg 3 (by omega)]; exact h3
    · obtain ⟨e8, a, b, d, e⟩ := h4 h
      exact ⟨by rw [ht8 4 (by omega), hg 4 (by omega)]; exact a, by rw [ht8 5 (by omega), hg 5 (by omega)]; exact b, by rw [ht8 6 (by omega), hg 6 (by omega)]; exact d, by rw [ht8 7 (by omega), hg 7 (by omega)]; exact e⟩
  · obtain ⟨ht', xx', yy', c', a, b⟩ := h k (by omega)
    exact ⟨ht', xx', yy', c', a, fun j hj => by rw [lay_out c bd _ _ (.inl (by omega))]; exact b j hj⟩
set_option maxHeartbeats 100000000 in
set_option maxRecDepth 20000 in
theorem comp_any (w : World) (B fb bb g o m cc n : Nat) (bd : List Value) (pb : List Int) (L0 : List Rec) (Gs : List Gl) (Rs : List Ref) (hn : n = Rs.length) (hn3 : n ≤ 3) (hL0 : L0.length ≤ 100) (hBw : B ≤ w.heap.size) (hgB : g < B)
    (hA : At w g o (vals .u8 pb)) (hm : m = pb.length) (hmc : m ≤ cc) (hm2 : m ≤ 1000) (hpar : Parts Rs pb) (hby : Byt pb) (hbuf : Buf w B bb bd L0) (hlen : 600 ≤ bd.length) (hpo : ∀ r ∈ Rs, PartOk Gs r) (hgi : ∀ r ∈ Rs, 0 ≤ r.1 ∧ r.1 ≤ 65535)
    (hld : ∀ j, j < n → ∀ (W' : World) (bd' : List Value) (L : List Rec), Buf W' B bb bd' L → bd'[0]? = bd[0]? → Below B w W' → L.length ≤ 400 → Calls Tryd.prog 23 #[.pointer (some ⟨fb, 0, none⟩), .pointer (some ⟨bb, 0, none⟩), .int .u16 (Rs.getD j (0, 0, 0, 0, 0)).1, .int .u32 (n : Int), .int .u32 1] W' (LoadP B bb bd' (L ++ partOf Gs (Rs.getD j (0, 0, 0, 0, 0))) W')) :
    Calls Tryd.prog 29 #[.pointer (some ⟨fb, 0, none⟩), .pointer (some ⟨bb, 0, none⟩), .slice (some ⟨g, o, none⟩) m cc, .int .u32 0, .int .u32 0] w (RestP B bb (L0 ++ recsR Gs Rs) w) := by
  have hn0 : 0 < n := by
    obtain ⟨r, rest, _, _, _, e, _⟩ := parts_inv hpar
    rw [hn, e]; simp
  have hbl : B ≤ bb := hbuf.2.1
  have HP := Lib.hid (And.intro hn (And.intro hA (And.intro hm (And.intro hpar (And.intro hby (And.intro hbuf (And.intro hlen (And.intro hpo (And.intro hgi hld)))))))))
  clear hn hA hm hpar hby hbuf hlen hpo hgi hld
  go_enter Tryd.func29, Tryd.ntmps29
  go_wp2_with fail
  go_loopg [2, 11] n (fun k d st wr => ∃ (i o' m' cc' : Nat) (pb' : List Int) (bd' : List Value), k = n - i ∧ d = .slice (some ⟨g, o', none⟩) m' cc' ∧ st = .int .u32 (i : Int) ∧ i < n ∧ At wr g o' (vals .u8 pb') ∧ Parts (Rs.drop i) pb' ∧ m' = pb'.length ∧ m' ≤ cc' ∧ m' ≤ 1000 ∧ Byt pb' ∧ Buf wr B bb bd' L0 ∧ bd'[0]? = bd[0]? ∧ bd'.length = bd.length ∧ Stk bd' Rs i ∧ Below B w wr)
  case atStart => exact ⟨0, o, m, cc, pb, bd, rfl, rfl, rfl, hn0, HP.out.2.1, HP.out.2.2.2.1, HP.out.2.2.1, hmc, hm2, HP.out.2.2.2.2.1, HP.out.2.2.2.2.2.1, rfl, rfl, fun k hk => absurd hk (by omega), Below.refl _ _⟩
  case round =>
    obtain ⟨i, o1, m1, c1, p1, b1, rfl, rfl, rfl, hin, hA, hpar, hm, hmc, hm2, hby, hbuf, hb0, hbl1, hstk, hbel⟩ := hrel
    obtain ⟨r, rest, more, bs, tl, hdr, hRB, hpb, hmf, hmt⟩ := parts_inv hpar
    have hir : i < Rs.length := by have := HP.out.1; omega
    have hrd : Rs.getD i (0, 0, 0, 0, 0) = r := by
      rw [List.drop_eq_getElem_cons hir] at hdr
      injection hdr with h1 h2
      rw [List.getD_eq_getElem?_getD, List.getElem?_eq_getElem hir, ← h1]; rfl
    have hrest : Rs.drop (i + 1) = rest := by
      rw [List.drop_eq_getElem_cons hir] at hdr
      injection hdr
    have hrm : r ∈ Rs := by rw [← hrd]; exact RowG.getD_mem _ _ _ hir
    have hpk := HP.out.2.2.2.2.2.2.2.1 r hrm
    have hgr := HP.out.2.2.2.2.2.2.2.2.1 r hrm
    obtain ⟨sm, md, hmd, hsm, hm0, hm1, hbs⟩ := hRB
    have d1 := hpk.dx
    have d2 := hpk.dy
    have s1 := hpk.sx
    have s2 := hpk.sy
    have wx : IntKind.i16.wrap (hi r.2.1 * 256 + lo r.2.1) = r.2.1 := word_in _ (by omega)
    have wy : IntKind.i16.wrap (hi r.2.2.1 * 256 + lo r.2.2.1) = r.2.2.1 := word_in _ (by omega)
    have wsx : IntKind.i16.wrap (hi (r.2.2.2.1 * 4096) * 256 + lo (r.2.2.2.1 * 4096)) = r.2.2.2.1 * 4096 := word_in _ (by omega)
    have wsy : IntKind.i16.wrap (hi (r.2.2.2.2 * 4096) * 256 + lo (r.2.2.2.2 * 4096)) = r.2.2.2.2 * 4096 := word_in _ (by omega)
    have wg : hi r.1 * 256 + lo r.1 = r.1 := hi_lo hgr
    have hbb := hbuf.1
    have hAt : Hid (∀ W, Below B w W → At W g o1 (vals .u8 p1)) := Lib.hid (fun W hb j u hu => by
      have h1 := hA j u hu
      have e : W.cell? ⟨g, o1 + j, none⟩ = w.cell? ⟨g, o1 + j, none⟩ := hb.cell (p := ⟨g, o1 + j, none⟩) hgB
      have e2 : wr.cell? ⟨g, o1 + j, none⟩ = w.cell? ⟨g, o1 + j, none⟩ := hbel.cell (p := ⟨g, o1 + j, none⟩) hgB
      rw [e, ← e2]; exact h1)
    have HU : Hid (∀ W q o' m' c' v, Below B w W → o' = o1 + q → q + 1 < m1 → 2 ≤ m' → p1.getD q 0 * 256 + p1.getD (q + 1) 0 = v → Calls Tryd.prog 28 #[.slice (some ⟨g, o', none⟩) m' c'] W fun e' w' => e' = .returned (.int .u16 v) ∧ W.drew = w') := Lib.hid (fun W q o' m' c' v hb ho hq hm' hv => by
      subst ho
      rw [← hv]
      have hA' := hAt.out W hb
      exact SfntB.u16_any g (o1 + q) m' c' _ _ W hm' (hby _ (RowG.getD_mem _ _ _ (by omega))) (hby _ (RowG.getD_mem _ _ _ (by omega))) (byt_cell hA' (by omega)) (by have := byt_cell hA' (i := q + 1) (by omega); rw [Nat.add_assoc]; exact this))
    have hrl : ∀ h : more = true, i + 1 < n := fun h => by
      have := hmt h
      have h2 := parts_inv this
      obtain ⟨r', rest', _, _, _, e, _⟩ := h2
      have h3 := congrArg List.length hrest
      rw [e, List.length_drop, List.length_cons] at h3
      have := HP.out.1
      omega
    have htl : more = true → 6 ≤ tl.length := fun h => parts_len (hmt h)
    obtain ⟨v1, hv1, hsg⟩ := hbuf.2.2
    have hi64 : i < 64 := by omega
    have hii : ¬ ((64 : Int) ≤ (i : Int)) := by omega
    have HR := Lib.hid (And.intro hA (And.intro hm (And.intro hpb (And.intro hmf (And.intro hmt (And.intro hby (And.intro hbb (And.intro hb0 (And.intro hbl1 (And.intro hstk (And.intro hbel (And.intro hrd (And.intro hrest (And.intro hbs (And.intro hsm (And.intro hm0 (And.intro hm1 (And.intro hv1 (And.intro hsg (And.intro hrl htl))))))))))))))))))))
    clear hA hpar hm hby hb0 hbl1 hstk hbel hdr hpb hmf hmt hir hrd hrest hrm hpk hgr hbs hsm hm0 hm1 hbb hrl htl hv1 hsg hbuf
    have hmd4 : md = 0 ∨ md = 1 ∨ md = 2 ∨ md = 3 := by omega
    clear hmd
    cases more <;> cases sm <;> rcases hmd4 with rfl | rfl | rfl | rfl
    · as_aux_lemma =>
        have hbs : bs = words [3, r.1] ++ dxy false r ++ scl 0 r := HR.out.2.2.2.2.2.2.2.2.2.2.2.2.2.1
        have hbe : p1 = hi 3 :: lo 3 :: hi r.1 :: lo r.1 :: hi r.2.1 :: lo r.2.1 :: hi r.2.2.1 :: lo r.2.2.1 :: tl := by rw [HR.out.2.2.1, hbs]; rfl
        have hm1 : m1 = 8 + tl.length := by rw [HR.out.2.1, hbe]; simp; omega
        have HBE := Lib.hid hbe
        have HML := Lib.hid hm1
        have hw0 : hi 3 * 256 + lo 3 = 3 := by decide
        have htl := (HR.out.2.2.2.1 (by first | rfl | trivial)).2
        have htl0 : tl.length = 0 := by rw [htl]; rfl
        have hmt : 8 ≤ m1 := by omega
        have hmt2 : m1 = 8 := by omega
        clear hbs hbe hm1 htl htl0
        have fb1 : (bits BinOp.and IntKind.u16 3 1 == 0) = false := by decide
        have fb2 : (bits BinOp.and IntKind.u16 3 2 == 0) = false := by decide
        have fb200 : (bits BinOp.and IntKind.u16 3 200 != 0) = false := by decide
        have fb8 : (bits BinOp.and IntKind.u16 3 8 != 0) = false := by decide
        have fb64 : (bits BinOp.and IntKind.u16 3 64 != 0) = false := by decide
        have fb128 : (bits BinOp.and IntKind.u16 3 128 != 0) = false := by decide
        have fb32 : (bits BinOp.and IntKind.u16 3 32 == 0) = true := by decide
        have n2 : ¬ c1 = 2 := by omega
        have z2 : (2 : Int) ≤ (c1 : Int) := by omega
        have n4 : ¬ c1 = 4 := by omega
        have z4 : (4 : Int) ≤ (c1 : Int) := by omega
        have n6 : ¬ c1 = 6 := by omega
        have z6 : (6 : Int) ≤ (c1 : Int) := by omega
        have z8 : (8 : Int) ≤ (c1 : Int) := by omega
        have la : ¬ ((m1 : Int) < 4) := by omega
        have lb : ¬ ((m1 : Int) < 8) := by omega
        have wi1 : IntKind.u32.wrap ((i : Int) + 1) = (i : Int) + 1 := IntWalk.u32_in _ (by omega)
        have HB0 : Hid (Blk bb BT b1 wr) := Lib.hid HR.out.2.2.2.2.2.2.1
        have HL0 : Hid (Below B w wr) := Lib.hid HR.out.2.2.2.2.2.2.2.2.2.2.1
        have HG0 : Hid (wr.grownBy wr (some bb)) := Lib.hid (ItE.gself wr _)
        have hB6 : 600 ≤ b1.length := by rw [HR.out.2.2.2.2.2.2.2.2.1]; exact HP.out.2.2.2.2.2.2.1
        go_wp2_with fail
        refine (HU.out _ 0 _ _ _ (3) (by first | exact HL0.out) (by omega) (by omega) (by omega) (by rw [HBE.out]; exact hw0)).mono ?_
        rintro e w' ⟨rfl, rfl⟩
        go_upto_region 12 with (fail)
        obtain ⟨W1, hW⟩ : ∃ X, X = (wr).drew := ⟨_, rfl⟩
        have HB1 : Hid (Blk bb BT (b1) W1) := Lib.hid (by rw [hW]; exact HB0.out)
        have HL1 : Hid (Below B w W1) := Lib.hid (by rw [hW]; exact (Below.drew HL0.out))
        have HG1 : Hid (wr.grownBy W1 (some bb)) := Lib.hid (by rw [hW]; exact (gdrew HG0.out))
        rw [← hW]
        clear hW HB0 HL0 HG0
        obtain ⟨u1, ku⟩ := cell_ex HB1.out (idx := 2 + i * 8) (by first | omega | (simp only [List.length_set]; omega))
        have kf := HB1.out.frozen
        go_wp2_with fail
        refine (HU.out _ 2 _ _ _ (r.1) (by first | exact HL1.out) (by omega) (by omega) (by omega) (by rw [HBE.out]; exact wg)).mono ?_
        rintro e w' ⟨rfl, rfl⟩
        go_upto_region 13 with (fail)
        obtain ⟨W2, hW⟩ : ∃ X, X = ((W1.setCell ⟨bb, 2 + i * 8, none⟩ (.int .u16 r.1))).drew := ⟨_, rfl⟩
        have HB2 : Hid (Blk bb BT ((b1).set (2 + i * 8) (.int .u16 r.1)) W2) := Lib.hid (by rw [hW]; exact (HB1.out.set_ (2 + i * 8) (.int .u16 r.1)))
        have HL2 : Hid (Below B w W2) := Lib.hid (by rw [hW]; exact (Below.drew (HL1.out.setCell (p := ⟨bb, 2 + i * 8, none⟩) hbl (.int .u16 r.1))))
        have HG2 : Hid (wr.grownBy W2 (some bb)) := Lib.hid (by rw [hW]; exact (gdrew (gtr HG1.out (gset W1 bb (2 + i * 8) (.int .u16 r.1)))))
        rw [← hW]
        clear hW HB1 HL1 HG1 ku kf
        obtain ⟨u2, ku⟩ := cell_ex HB2.out (idx := 2 + i * 8 + 1) (by first | omega | (simp only [List.length_set]; omega))
        have kf := HB2.out.frozen
        go_wp2_with fail
        refine (HU.out _ 4 _ _ _ (hi r.2.1 * 256 + lo r.2.1) (by first | exact HL2.out) (by omega) (by omega) (by omega) (by rw [HBE.out]; rfl)).mono ?_
        rintro e w' ⟨rfl, rfl⟩
        go_upto_region 22 with (fail)
        obtain ⟨W3, hW⟩ : ∃ X, X = ((W2.setCell ⟨bb, 2 + i * 8 + 1, none⟩ (.int .i16 r.2.1))).drew := ⟨_, rfl⟩
        have HB3 : Hid (Blk bb BT (((b1).set (2 + i * 8) (.int .u16 r.1)).set (2 + i * 8 + 1) (.int .i16 r.2.1)) W3) := Lib.hid (by rw [hW]; exact (HB2.out.set_ (2 + i * 8 + 1) (.int .i16 r.2.1)))
        have HL3 : Hid (Below B w W3) := Lib.hid (by rw [hW]; exact (Below.drew (HL2.out.setCell (p := ⟨bb, 2 + i * 8 + 1, none⟩) hbl (.int .i16 r.2.1))))
        have HG3 : Hid (wr.grownBy W3 (some bb)) := Lib.hid (by rw [hW]; exact (gdrew (gtr HG2.out (gset W2 bb (2 + i * 8 + 1) (.int .i16 r.2.1)))))
        rw [← hW]
        clear hW HB2 HL2 HG2 ku kf
        obtain ⟨u3, ku⟩ := cell_ex HB3.out (idx := 2 + i * 8 + 2) (by first | omega | (simp only [List.length_set]; omega))
        have kf := HB3.out.frozen
        go_wp2_with fail
        refine (HU.out _ 6 _ _ _ (hi r.2.2.1 * 256 + lo r.2.2.1) (by first | exact HL3.out) (by omega) (by omega) (by omega) (by rw [HBE.out]; rfl)).mono ?_
        rintro e w' ⟨rfl, rfl⟩
        go_upto_region 23 with (fail)
        obtain ⟨W4, hW⟩ : ∃ X, X = ((W3.setCell ⟨bb, 2 + i * 8 + 2, none⟩ (.int .i16 r.2.2.1))).drew := ⟨_, rfl⟩
        have HB4 : Hid (Blk bb BT ((((b1).set (2 + i * 8) (.int .u16 r.1)).set (2 + i * 8 + 1) (.int .i16 r.2.1)).set (2 + i * 8 + 2) (.int .i16 r.2.2.1)) W4) := Lib.hid (by rw [hW]; exact (HB3.out.set_ (2 + i * 8 + 2) (.int .i16 r.2.2.1)))
        have HL4 : Hid (Below B w W4) := Lib.hid (by rw [hW]; exact (Below.drew (HL3.out.setCell (p := ⟨bb, 2 + i * 8 + 2, none⟩) hbl (.int .i16 r.2.2.1))))
        have HG4 : Hid (wr.grownBy W4 (some bb)) := Lib.hid (by rw [hW]; exact (gdrew (gtr HG3.out (gset W3 bb (2 + i * 8 + 2) (.int .i16 r.2.2.1)))))
        rw [← hW]
        clear hW HB3 HL3 HG3 ku kf
        obtain ⟨u4, ku⟩ := cell_ex HB4.out (idx := 2 + i * 8 + 3) (by first | omega | (simp only [List.length_set]; omega))
        have kf := HB4.out.frozen
        go_upto_region 52 with (fail)
        obtain ⟨W5, hW⟩ : ∃ X, X = (W4.setCell ⟨bb, 2 + i * 8 + 3, none⟩ (.bool false)) := ⟨_, rfl⟩
        have HB5 : Hid (Blk bb BT (((((b1).set (2 + i * 8) (.int .u16 r.1)).set (2 + i * 8 + 1) (.int .i16 r.2.1)).set (2 + i * 8 + 2) (.int .i16 r.2.2.1)).set (2 + i * 8 + 3) (.bool false)) W5) := Lib.hid (by rw [hW]; exact (HB4.out.set_ (2 + i * 8 + 3) (.bool false)))
        have HL5 : Hid (Below B w W5) := Lib.hid (by rw [hW]; exact (HL4.out.setCell (p := ⟨bb, 2 + i * 8 + 3, none⟩) hbl (.bool false)))
        have HG5 : Hid (wr.grownBy W5 (some bb)) := Lib.hid (by rw [hW]; exact (gtr HG4.out (gset W4 bb (2 + i * 8 + 3) (.bool false))))
        rw [← hW]
        clear hW HB4 HL4 HG4 ku kf
        have hst := stk_lay (ht := false) (xx := 0) (yy := 0) (c := [.int .u16 r.1, .int .i16 r.2.1, .int .i16 r.2.2.1, .bool false]) HR.out.2.2.2.2.2.2.2.2.2.1 (by rw [HR.out.2.2.2.2.2.2.2.2.1]; have := HP.out.2.2.2.2.2.2.1; omega) (by simp) (by rw [HR.out.2.2.2.2.2.2.2.2.2.2.2.1]; rfl) (by rw [HR.out.2.2.2.2.2.2.2.2.2.2.2.1]; rfl) (by rw [HR.out.2.2.2.2.2.2.2.2.2.2.2.1]; rfl) rfl (fun h => by cases h) (fun _ => by rw [HR.out.2.2.2.2.2.2.2.2.2.2.2.1]; exact HR.out.2.2.2.2.2.2.2.2.2.2.2.2.2.2.2.1 (by first | rfl | trivial))
        have hl0 : (lay b1 (2 + i * 8) [.int .u16 r.1, .int .i16 r.2.1, .int .i16 r.2.2.1, .bool false])[0]? = bd[0]? := by rw [lay_out _ _ _ _ (.inl (by omega))]; exact HR.out.2.2.2.2.2.2.2.1
        have hl1 : (lay b1 (2 + i * 8) [.int .u16 r.1, .int .i16 r.2.1, .int .i16 r.2.2.1, .bool false])[1]? = some v1 := by rw [lay_out _ _ _ _ (.inl (by omega))]; exact HR.out.2.2.2.2.2.2.2.2.2.2.2.2.2.2.2.2.2.1
        have hll : (lay b1 (2 + i * 8) [.int .u16 r.1, .int .i16 r.2.1, .int .i16 r.2.2.1, .bool false]).length = bd.length := by rw [lay_len]; exact HR.out.2.2.2.2.2.2.2.2.1
        have hbw : Blk bb BT (lay b1 (2 + i * 8) [.int .u16 r.1, .int .i16 r.2.1, .int .i16 r.2.2.1, .bool false]) W5 := HB5.out
        have hsg := (HR.out.2.2.2.2.2.2.2.2.2.2.2.2.2.2.2.2.2.2.1).grown HR.out.2.2.2.2.2.2.1 (by decide) HG5.out
        have HST := Lib.hid (And.intro hst (And.intro hl0 (And.intro hl1 (And.intro hll (And.intro hbw hsg)))))
        clear hst hl0 hl1 hll hbw hsg
        have hni : n = i + 1 := by
          have h1 := congrArg List.length HR.out.2.2.2.2.2.2.2.2.2.2.2.2.1
          rw [(HR.out.2.2.2.1 (by first | rfl | trivial)).1, List.length_drop, List.length_nil] at h1
          have := HP.out.1
          omega
        have HNI := Lib.hid hni
        clear hni
        repeat (first | ((with_reducible refine Gate.seqr2 53 ?_); refine qrest w B fb bb n (lay b1 (2 + i * 8) [.int .u16 r.1, .int .i16 r.2.1, .int .i16 r.2.2.1, .bool false]) L0 Gs Rs _ _ _ (by kernel_rfl) (by exact rfl) (by exact rfl) (by exact rfl) (by exact rfl) (by exact rfl) (by exact rfl) (by rw [HNI.out]; exact rfl) HP.out.1 hn3 hL0 hBw (by rw [HNI.out]; exact HST.out.1) ⟨HST.out.2.2.2.2.1, hbl, v1, HST.out.2.2.1, HST.out.2.2.2.2.2⟩ HL5.out HP.out.2.2.2.2.2.2.2.1 (fun j hj W' bd' L h1 h2 h3 h4 => HP.out.2.2.2.2.2.2.2.2.2 j hj W' bd' L h1 ((h2.2 0 (by decide)).trans HST.out.2.1) h3 h4)) | go_values | go_skip | go_guarded | go_step | go_upon | go_back)
    · as_aux_lemma =>
        have hbs : bs = words [11, r.1] ++ dxy false r ++ scl 1 r := HR.out.2.2.2.2.2.2.2.2.2.2.2.2.2.1
        have hbe : p1 = hi 11 :: lo 11 :: hi r.1 :: lo r.1 :: hi r.2.1 :: lo r.2.1 :: hi r.2.2.1 :: lo r.2.2.1 :: hi (r.2.2.2.1 * 4096) :: lo (r.2.2.2.1 * 4096) :: tl := by rw [HR.out.2.2.1, hbs]; rfl
        have hm1 : m1 = 10 + tl.length := by rw [HR.out.2.1, hbe]; simp; omega
        have HBE := Lib.hid hbe
        have HML := Lib.hid hm1
        have hw0 : hi 11 * 256 + lo 11 = 11 := by decide
        have htl := (HR.out.2.2.2.1 (by first | rfl | trivial)).2
        have htl0 : tl.length = 0 := by rw [htl]; rfl
        have hmt : 10 ≤ m1 := by omega
        have hmt2 : m1 = 10 := by omega
        clear hbs hbe hm1 htl htl0
        have fb1 : (bits BinOp.and IntKind.u16 11 1 == 0) = false := by decide
        have fb2 : (bits BinOp.and IntKind.u16 11 2 == 0) = false := by decide
        have fb200 : (bits BinOp.and IntKind.u16 11 200 != 0) = true := by decide
        have fb8 : (bits BinOp.and IntKind.u16 11 8 != 0) = true := by decide
        have fb64 : (bits BinOp.and IntKind.u16 11 64 != 0) = false := by decide
        have fb128 : (bits BinOp.and IntKind.u16 11 128 != 0) = false := by decide
        have fb32 : (bits BinOp.and IntKind.u16 11 32 == 0) = true := by decide
        have n2 : ¬ c1 = 2 := by omega
        have z2 : (2 : Int) ≤ (c1 : Int) := by omega
        have n4 : ¬ c1 = 4 := by omega
        have z4 : (4 : Int) ≤ (c1 : Int) := by omega
        have n6 : ¬ c1 = 6 := by omega
        have z6 : (6 : Int) ≤ (c1 : Int) := by omega
        have n8 : ¬ c1 = 8 := by omega
        have z8 : (8 : Int) ≤ (c1 : Int) := by omega
        have z10 : (10 : Int) ≤ (c1 : Int) := by omega
        have x2 : (2 : Int) ≤ ((c1 - 8 : Nat) : Int) := by omega
        have la : ¬ ((m1 : Int) < 4) := by omega
        have lb : ¬ ((m1 : Int) < 8) := by omega
        have lc : ¬ (((m1 - 8 : Nat) : Int) < 2) := by omega
        have wi1 : IntKind.u32.wrap ((i : Int) + 1) = (i : Int) + 1 := IntWalk.u32_in _ (by omega)
        have HB0 : Hid (Blk bb BT b1 wr) := Lib.hid HR.out.2.2.2.2.2.2.1
        have HL0 : Hid (Below B w wr) := Lib.hid HR.out.2.2.2.2.2.2.2.2.2.2.1
        have HG0 : Hid (wr.grownBy wr (some bb)) := Lib.hid (ItE.gself wr _)
        have hB6 : 600 ≤ b1.length := by rw [HR.out.2.2.2.2.2.2.2.2.1]; exact HP.out.2.2.2.2.2.2.1
        go_wp2_with fail
        refine (HU.out _ 0 _ _ _ (11) (by first | exact HL0.out) (by omega) (by omega) (by omega) (by rw [HBE.out]; exact hw0)).mono ?_
        rintro e w' ⟨rfl, rfl⟩
        go_upto_region 12 with (fail)
        obtain ⟨W1, hW⟩ : ∃ X, X = (wr).drew := ⟨_, rfl⟩
        have HB1 : Hid (Blk bb BT (b1) W1) := Lib.hid (by rw [hW]; exact HB0.out)
        have HL1 : Hid (Below B w W1) := Lib.hid (by rw [hW]; exact (Below.drew HL0.out))
        have HG1 : Hid (wr.grownBy W1 (some bb)) := Lib.hid (by rw [hW]; exact (gdrew HG0.out))
        rw [← hW]
        clear hW HB0 HL0 HG0
        obtain ⟨u1, ku⟩ := cell_ex HB1.out (idx := 2 + i * 8) (by first | omega | (simp only [List.length_set]; omega))
        have kf := HB1.out.frozen
        go_wp2_with fail
        refine (HU.out _ 2 _ _ _ (r.1) (by first | exact HL1.out) (by omega) (by omega) (by omega) (by rw [HBE.out]; exact wg)).mono ?_
        rintro e w' ⟨rfl, rfl⟩
        go_upto_region 13 with (fail)
        obtain ⟨W2, hW⟩ : ∃ X, X = ((W1.setCell ⟨bb, 2 + i * 8, none⟩ (.int .u16 r.1))).drew := ⟨_, rfl⟩
        have HB2 : Hid (Blk bb BT ((b1).set (2 + i * 8) (.int .u16 r.1)) W2) := Lib.hid (by rw [hW]; exact (HB1.out.set_ (2 + i * 8) (.int .u16 r.1)))
        have HL2 : Hid (Below B w W2) := Lib.hid (by rw [hW]; exact (Below.drew (HL1.out.setCell (p := ⟨bb, 2 + i * 8, none⟩) hbl (.int .u16 r.1))))
        have HG2 : Hid (wr.grownBy W2 (some bb)) := Lib.hid (by rw [hW]; exact (gdrew (gtr HG1.out (gset W1 bb (2 + i * 8) (.int .u16 r.1)))))
        rw [← hW]
        clear hW HB1 HL1 HG1 ku kf
        obtain ⟨u2, ku⟩ := cell_ex HB2.out (idx := 2 + i * 8 + 1) (by first | omega | (simp only [List.length_set]; omega))
        have kf := HB2.out.frozen
        go_wp2_with fail
        refine (HU.out _ 4 _ _ _ (hi r.2.1 * 256 + lo r.2.1) (by first | exact HL2.out) (by omega) (by omega) (by omega) (by rw [HBE.out]; rfl)).mono ?_
        rintro e w' ⟨rfl, rfl⟩
        go_upto_region 22 with (fail)
        obtain ⟨W3, hW⟩ : ∃ X, X = ((W2.setCell ⟨bb, 2 + i * 8 + 1, none⟩ (.int .i16 r.2.1))).drew := ⟨_, rfl⟩
        have HB3 : Hid (Blk bb BT (((b1).set (2 + i * 8) (.int .u16 r.1)).set (2 + i * 8 + 1) (.int .i16 r.2.1)) W3) := Lib.hid (by rw [hW]; exact (HB2.out.set_ (2 + i * 8 + 1) (.int .i16 r.2.1)))
        have HL3 : Hid (Below B w W3) := Lib.hid (by rw [hW]; exact (Below.drew (HL2.out.setCell (p := ⟨bb, 2 + i * 8 + 1, none⟩) hbl (.int .i16 r.2.1))))
        have HG3 : Hid (wr.grownBy W3 (some bb)) := Lib.hid (by rw [hW]; exact (gdrew (gtr HG2.out (gset W2 bb (2 + i * 8 + 1) (.int .i16 r.2.1)))))
        rw [← hW]
        clear hW HB2 HL2 HG2 ku kf
        obtain ⟨u3, ku⟩ := cell_ex HB3.out (idx := 2 + i * 8 + 2) (by first | omega | (simp only [List.length_set]; omega))
        have kf := HB3.out.frozen
        go_wp2_with fail
        refine (HU.out _ 6 _ _ _ (hi r.2.2.1 * 256 + lo r.2.2.1) (by first | exact HL3.out) (by omega) (by omega) (by omega) (by rw [HBE.out]; rfl)).mono ?_
        rintro e w' ⟨rfl, rfl⟩
        go_upto_region 23 with (fail)
        obtain ⟨W4, hW⟩ : ∃ X, X = ((W3.setCell ⟨bb, 2 + i * 8 + 2, none⟩ (.int .i16 r.2.2.1))).drew := ⟨_, rfl⟩
        have HB4 : Hid (Blk bb BT ((((b1).set (2 + i * 8) (.int .u16 r.1)).set (2 + i * 8 + 1) (.int .i16 r.2.1)).set (2 + i * 8 + 2) (.int .i16 r.2.2.1)) W4) := Lib.hid (by rw [hW]; exact (HB3.out.set_ (2 + i * 8 + 2) (.int .i16 r.2.2.1)))
        have HL4 : Hid (Below B w W4) := Lib.hid (by rw [hW]; exact (Below.drew (HL3.out.setCell (p := ⟨bb, 2 + i * 8 + 2, none⟩) hbl (.int .i16 r.2.2.1))))
        have HG4 : Hid (wr.grownBy W4 (some bb)) := Lib.hid (by rw [hW]; exact (gdrew (gtr HG3.out (gset W3 bb (2 + i * 8 + 2) (.int .i16 r.2.2.1)))))
        rw [← hW]
        clear hW HB3 HL3 HG3 ku kf
        obtain ⟨u4, ku⟩ := cell_ex HB4.out (idx := 2 + i * 8 + 3) (by first | omega | (simp only [List.length_set]; omega))
        have kf := HB4.out.frozen
        go_upto_region 31 with (fail)
        obtain ⟨W5, hW⟩ : ∃ X, X = (W4.setCell ⟨bb, 2 + i * 8 + 3, none⟩ (.bool true)) := ⟨_, rfl⟩
        have HB5 : Hid (Blk bb BT (((((b1).set (2 + i * 8) (.int .u16 r.1)).set (2 + i * 8 + 1) (.int .i16 r.2.1)).set (2 + i * 8 + 2) (.int .i16 r.2.2.1)).set (2 + i * 8 + 3) (.bool true)) W5) := Lib.hid (by rw [hW]; exact (HB4.out.set_ (2 + i * 8 + 3) (.bool true)))
        have HL5 : Hid (Below B w W5) := Lib.hid (by rw [hW]; exact (HL4.out.setCell (p := ⟨bb, 2 + i * 8 + 3, none⟩) hbl (.bool true)))
        have HG5 : Hid (wr.grownBy W5 (some bb)) := Lib.hid (by rw [hW]; exact (gtr HG4.out (gset W4 bb (2 + i * 8 + 3) (.bool true))))
        rw [← hW]
        clear hW HB4 HL4 HG4 ku kf
        obtain ⟨u5, ku⟩ := cell_ex HB5.out (idx := 2 + i * 8 + 4) (by first | omega | (simp only [List.length_set]; omega))
        have kf := HB5.out.frozen
        go_wp2_with fail
        refine (HU.out _ 8 _ _ _ (hi (r.2.2.2.1 * 4096) * 256 + lo (r.2.2.2.1 * 4096)) (by first | exact HL5.out) (by omega) (by omega) (by omega) (by rw [HBE.out]; rfl)).mono ?_
        rintro e w' ⟨rfl, rfl⟩
        go_upto_region 32 with (fail)
        obtain ⟨W6, hW⟩ : ∃ X, X = ((W5.setCell ⟨bb, 2 + i * 8 + 4, none⟩ (.int .i16 (r.2.2.2.1 * 4096)))).drew := ⟨_, rfl⟩
        have HB6 : Hid (Blk bb BT ((((((b1).set (2 + i * 8) (.int .u16 r.1)).set (2 + i * 8 + 1) (.int .i16 r.2.1)).set (2 + i * 8 + 2) (.int .i16 r.2.2.1)).set (2 + i * 8 + 3) (.bool true)).set (2 + i * 8 + 4) (.int .i16 (r.2.2.2.1 * 4096))) W6) := Lib.hid (by rw [hW]; exact (HB5.out.set_ (2 + i * 8 + 4) (.int .i16 (r.2.2.2.1 * 4096))))
        have HL6 : Hid (Below B w W6) := Lib.hid (by rw [hW]; exact (Below.drew (HL5.out.setCell (p := ⟨bb, 2 + i * 8 + 4, none⟩) hbl (.int .i16 (r.2.2.2.1 * 4096)))))
        have HG6 : Hid (wr.grownBy W6 (some bb)) := Lib.hid (by rw [hW]; exact (gdrew (gtr HG5.out (gset W5 bb (2 + i * 8 + 4) (.int .i16 (r.2.2.2.1 * 4096))))))
        rw [← hW]
        clear hW HB5 HL5 HG5 ku kf
        obtain ⟨u6, ku⟩ := cell_ex HB6.out (idx := 2 + i * 8 + 5) (by first | omega | (simp only [List.length_set]; omega))
        have kf := HB6.out.frozen
        go_upto_region 33 with (fail)
        obtain ⟨W7, hW⟩ : ∃ X, X = (W6.setCell ⟨bb, 2 + i * 8 + 5, none⟩ (.int .i16 0)) := ⟨_, rfl⟩
        have HB7 : Hid (Blk bb BT (((((((b1).set (2 + i * 8) (.int .u16 r.1)).set (2 + i * 8 + 1) (.int .i16 r.2.1)).set (2 + i * 8 + 2) (.int .i16 r.2.2.1)).set (2 + i * 8 + 3) (.bool true)).set (2 + i * 8 + 4) (.int .i16 (r.2.2.2.1 * 4096))).set (2 + i * 8 + 5) (.int .i16 0)) W7) := Lib.hid (by rw [hW]; exact (HB6.out.set_ (2 + i * 8 + 5) (.int .i16 0)))
        have HL7 : Hid (Below B w W7) := Lib.hid (by rw [hW]; exact (HL6.out.setCell (p := ⟨bb, 2 + i * 8 + 5, none⟩) hbl (.int .i16 0)))
        have HG7 : Hid (wr.grownBy W7 (some bb)) := Lib.hid (by rw [hW]; exact (gtr HG6.out (gset W6 bb (2 + i * 8 + 5) (.int .i16 0))))
        rw [← hW]
        clear hW HB6 HL6 HG6 ku kf
        obtain ⟨u7, ku⟩ := cell_ex HB7.out (idx := 2 + i * 8 + 6) (by first | omega | (simp only [List.length_set]; omega))
        have kf := HB7.out.frozen
        go_upto_region 34 with (fail)
        obtain ⟨W8, hW⟩ : ∃ X, X = (W7.setCell ⟨bb, 2 + i * 8 + 6, none⟩ (.int .i16 0)) := ⟨_, rfl⟩
        have HB8 : Hid (Blk bb BT ((((((((b1).set (2 + i * 8) (.int .u16 r.1)).set (2 + i * 8 + 1) (.int .i16 r.2.1)).set (2 + i * 8 + 2) (.int .i16 r.2.2.1)).set (2 + i * 8 + 3) (.bool true)).set (2 + i * 8 + 4) (.int .i16 (r.2.2.2.1 * 4096))).set (2 + i * 8 + 5) (.int .i16 0)).set (2 + i * 8 + 6) (.int .i16 0)) W8) := Lib.hid (by rw [hW]; exact (HB7.out.set_ (2 + i * 8 + 6) (.int .i16 0)))
        have HL8 : Hid (Below B w W8) := Lib.hid (by rw [hW]; exact (HL7.out.setCell (p := ⟨bb, 2 + i * 8 + 6, none⟩) hbl (.int .i16 0)))
        have HG8 : Hid (wr.grownBy W8 (some bb)) := Lib.hid (by rw [hW]; exact (gtr HG7.out (gset W7 bb (2 + i * 8 + 6) (.int .i16 0))))
        rw [← hW]
        clear hW HB7 HL7 HG7 ku kf
        have k4 : W8.cell? ⟨bb, 2 + i * 8 + 4, none⟩ = some (.int .i16 (r.2.2.2.1 * 4096)) := HB8.out.cell (by rw [List.getElem?_set_ne (by omega), List.getElem?_set_ne (by omega), List.getElem?_set_self (by simp only [List.length_set]; omega)])
        obtain ⟨u8, ku⟩ := cell_ex HB8.out (idx := 2 + i * 8 + 7) (by first | omega | (simp only [List.length_set]; omega))
        have kf := HB8.out.frozen
        go_upto_region 35 with (fail)
        obtain ⟨W9, hW⟩ : ∃ X, X = (W8.setCell ⟨bb, 2 + i * 8 + 7, none⟩ (.int .i16 (r.2.2.2.1 * 4096))) := ⟨_, rfl⟩
        have HB9 : Hid (Blk bb BT (((((((((b1).set (2 + i * 8) (.int .u16 r.1)).set (2 + i * 8 + 1) (.int .i16 r.2.1)).set (2 + i * 8 + 2) (.int .i16 r.2.2.1)).set (2 + i * 8 + 3) (.bool true)).set (2 + i * 8 + 4) (.int .i16 (r.2.2.2.1 * 4096))).set (2 + i * 8 + 5) (.int .i16 0)).set (2 + i * 8 + 6) (.int .i16 0)).set (2 + i * 8 + 7) (.int .i16 (r.2.2.2.1 * 4096))) W9) := Lib.hid (by rw [hW]; exact (HB8.out.set_ (2 + i * 8 + 7) (.int .i16 (r.2.2.2.1 * 4096))))
        have HL9 : Hid (Below B w W9) := Lib.hid (by rw [hW]; exact (HL8.out.setCell (p := ⟨bb, 2 + i * 8 + 7, none⟩) hbl (.int .i16 (r.2.2.2.1 * 4096))))
        have HG9 : Hid (wr.grownBy W9 (some bb)) := Lib.hid (by rw [hW]; exact (gtr HG8.out (gset W8 bb (2 + i * 8 + 7) (.int .i16 (r.2.2.2.1 * 4096)))))
        rw [← hW]
        clear hW HB8 HL8 HG8 ku kf k4
        have hst := stk_lay (ht := true) (xx := 0) (yy := 0) (c := [.int .u16 r.1, .int .i16 r.2.1, .int .i16 r.2.2.1, .bool true, .int .i16 (r.2.2.2.1 * 4096), .int .i16 0, .int .i16 0, .int .i16 (r.2.2.2.1 * 4096)]) HR.out.2.2.2.2.2.2.2.2.2.1 (by rw [HR.out.2.2.2.2.2.2.2.2.1]; have := HP.out.2.2.2.2.2.2.1; omega) (by simp) (by rw [HR.out.2.2.2.2.2.2.2.2.2.2.2.1]; rfl) (by rw [HR.out.2.2.2.2.2.2.2.2.2.2.2.1]; rfl) (by rw [HR.out.2.2.2.2.2.2.2.2.2.2.2.1]; rfl) rfl (fun _ => ⟨rfl, by rw [HR.out.2.2.2.2.2.2.2.2.2.2.2.1]; rfl, rfl, rfl, by rw [HR.out.2.2.2.2.2.2.2.2.2.2.2.1, ← HR.out.2.2.2.2.2.2.2.2.2.2.2.2.2.2.2.2.1 (by first | rfl | trivial)]; rfl⟩) (fun h => by cases h)
        have hl0 : (lay b1 (2 + i * 8) [.int .u16 r.1, .int .i16 r.2.1, .int .i16 r.2.2.1, .bool true, .int .i16 (r.2.2.2.1 * 4096), .int .i16 0, .int .i16 0, .int .i16 (r.2.2.2.1 * 4096)])[0]? = bd[0]? := by rw [lay_out _ _ _ _ (.inl (by omega))]; exact HR.out.2.2.2.2.2.2.2.1
        have hl1 : (lay b1 (2 + i * 8) [.int .u16 r.1, .int .i16 r.2.1, .int .i16 r.2.2.1, .bool true, .int .i16 (r.2.2.2.1 * 4096), .int .i16 0, .int .i16 0, .int .i16 (r.2.2.2.1 * 4096)])[1]? = some v1 := by rw [lay_out _ _ _ _ (.inl (by omega))]; exact HR.out.2.2.2.2.2.2.2.2.2.2.2.2.2.2.2.2.2.1
        have hll : (lay b1 (2 + i * 8) [.int .u16 r.1, .int .i16 r.2.1, .int .i16 r.2.2.1, .bool true, .int .i16 (r.2.2.2.1 * 4096), .int .i16 0, .int .i16 0, .int .i16 (r.2.2.2.1 * 4096)]).length = bd.length := by rw [lay_len]; exact HR.out.2.2.2.2.2.2.2.2.1
        have hbw : Blk bb BT (lay b1 (2 + i * 8) [.int .u16 r.1, .int .i16 r.2.1, .int .i16 r.2.2.1, .bool true, .int .i16 (r.2.2.2.1 * 4096), .int .i16 0, .int .i16 0, .int .i16 (r.2.2.2.1 * 4096)]) W9 := HB9.out
        have hsg := (HR.out.2.2.2.2.2.2.2.2.2.2.2.2.2.2.2.2.2.2.1).grown HR.out.2.2.2.2.2.2.1 (by decide) HG9.out
        have HST := Lib.hid (And.intro hst (And.intro hl0 (And.intro hl1 (And.intro hll (And.intro hbw hsg)))))
        clear hst hl0 hl1 hll hbw hsg
        have hni : n = i + 1 := by
          have h1 := congrArg List.length HR.out.2.2.2.2.2.2.2.2.2.2.2.2.1
          rw [(HR.out.2.2.2.1 (by first | rfl | trivial)).1, List.length_drop, List.length_nil] at h1
          have := HP.out.1
          omega
        have HNI := Lib.hid hni
        clear hni
        repeat (first | ((with_reducible refine Gate.seqr2 53 ?_); refine qrest w B fb bb n (lay b1 (2 + i * 8) [.int .u16 r.1, .int .i16 r.2.1, .int .i16 r.2.2.1, .bool true, .int .i16 (r.2.2.2.1 * 4096), .int .i16 0, .int .i16 0, .int .i16 (r.2.2.2.1 * 4096)]) L0 Gs Rs _ _ _ (by kernel_rfl) (by exact rfl) (by exact rfl) (by exact rfl) (by exact rfl) (by exact rfl) (by exact rfl) (by rw [HNI.out]; exact rfl) HP.out.1 hn3 hL0 hBw (by rw [HNI.out]; exact HST.out.1) ⟨HST.out.2.2.2.2.1, hbl, v1, HST.out.2.2.1, HST.out.2.2.2.2.2⟩ HL9.out HP.out.2.2.2.2.2.2.2.1 (fun j hj W' bd' L h1 h2 h3 h4 => HP.out.2.2.2.2.2.2.2.2.2 j hj W' bd' L h1 ((h2.2 0 (by decide)).trans HST.out.2.1) h3 h4)) | go_values | go_skip | go_guarded | go_step | go_upon | go_back)
    · as_aux_lemma =>
        have hbs : bs = words [67, r.1] ++ dxy false r ++ scl 2 r := HR.out.2.2.2.2.2.2.2.2.2.2.2.2.2.1
        have hbe : p1 = hi 67 :: lo 67 :: hi r.1 :: lo r.1 :: hi r.2.1 :: lo r.2.1 :: hi r.2.2.1 :: lo r.2.2.1 :: hi (r.2.2.2.1 * 4096) :: lo (r.2.2.2.1 * 4096) :: hi (r.2.2.2.2 * 4096) :: lo (r.2.2.2.2 * 4096) :: tl := by rw [HR.out.2.2.1, hbs]; rfl
        have hm1 : m1 = 12 + tl.length := by rw [HR.out.2.1, hbe]; simp; omega
        have HBE := Lib.hid hbe
        have HML := Lib.hid hm1
        have hw0 : hi 67 * 256 + lo 67 = 67 := by decide
        have htl := (HR.out.2.2.2.1 (by first | rfl | trivial)).2
        have htl0 : tl.length = 0 := by rw [htl]; rfl
        have hmt : 12 ≤ m1 := by omega
        have hmt2 : m1 = 12 := by omega
        clear hbs hbe hm1 htl htl0
        have fb1 : (bits BinOp.and IntKind.u16 67 1 == 0) = false := by decide
        have fb2 : (bits BinOp.and IntKind.u16 67 2 == 0) = false := by decide
        have fb200 : (bits BinOp.and IntKind.u16 67 200 != 0) = true := by decide
        have fb8 : (bits BinOp.and IntKind.u16 67 8 != 0) = false := by decide
        have fb64 : (bits BinOp.and IntKind.u16 67 64 != 0) = true := by decide
        have fb128 : (bits BinOp.and IntKind.u16 67 128 != 0) = false := by decide
        have fb32 : (bits BinOp.and IntKind.u16 67 32 == 0) = true := by decide
        have n2 : ¬ c1 = 2 := by omega
        have z2 : (2 : Int) ≤ (c1 : Int) := by omega
        have n4 : ¬ c1 = 4 := by omega
        have z4 : (4 : Int) ≤ (c1 : Int) := by omega
        have n6 : ¬ c1 = 6 := by omega
        have z6 : (6 : Int) ≤ (c1 : Int) := by omega
        have n8 : ¬ c1 = 8 := by omega
        have z8 : (8 : Int) ≤ (c1 : Int) := by omega
        have n10 : ¬ c1 = 10 := by omega
        have z10 : (10 : Int) ≤ (c1 : Int) := by omega
        have z12 : (12 : Int) ≤ (c1 : Int) := by omega
        have y2 : ¬ c1 - 8 = 2 := by omega
        have x2 : (2 : Int) ≤ ((c1 - 8 : Nat) : Int) := by omega
        have x4 : (4 : Int) ≤ ((c1 - 8 : Nat) : Int) := by omega
        have la : ¬ ((m1 : Int) < 4) := by omega
        have lb : ¬ ((m1 : Int) < 8) := by omega
        have lc : ¬ (((m1 - 8 : Nat) : Int) < 4) := by omega
        have wi1 : IntKind.u32.wrap ((i : Int) + 1) = (i : Int) + 1 := IntWalk.u32_in _ (by omega)
        have HB0 : Hid (Blk bb BT b1 wr) := Lib.hid HR.out.2.2.2.2.2.2.1
        have HL0 : Hid (Below B w wr) := Lib.hid HR.out.2.2.2.2.2.2.2.2.2.2.1
        have HG0 : Hid (wr.grownBy wr (some bb)) := Lib.hid (ItE.gself wr _)
        have hB6 : 600 ≤ b1.length := by rw [HR.out.2.2.2.2.2.2.2.2.1]; exact HP.out.2.2.2.2.2.2.1
        go_wp2_with fail
        refine (HU.out _ 0 _ _ _ (67) (by first | exact HL0.out) (by omega) (by omega) (by omega) (by rw [HBE.out]; exact hw0)).mono ?_
        rintro e w' ⟨rfl, rfl⟩
        go_upto_region 12 with (fail)
        obtain ⟨W1, hW⟩ : ∃ X, X = (wr).drew := ⟨_, rfl⟩
        have HB1 : Hid (Blk bb BT (b1) W1) := Lib.hid (by rw [hW]; exact HB0.out)
        have HL1 : Hid (Below B w W1) := Lib.hid (by rw [hW]; exact (Below.drew HL0.out))
        have HG1 : Hid (wr.grownBy W1 (some bb)) := Lib.hid (by rw [hW]; exact (gdrew HG0.out))
        rw [← hW]
        clear hW HB0 HL0 HG0
        obtain ⟨u1, ku⟩ := cell_ex HB1.out (idx := 2 + i * 8) (by first | omega | (simp only [List.length_set]; omega))
        have kf := HB1.out.frozen
        go_wp2_with fail
        refine (HU.out _ 2 _ _ _ (r.1) (by first | exact HL1.out) (by omega) (by omega) (by omega) (by rw [HBE.out]; exact wg)).mono ?_
        rintro e w' ⟨rfl, rfl⟩
        go_upto_region 13 with (fail)
        obtain ⟨W2, hW⟩ : ∃ X, X = ((W1.setCell ⟨bb, 2 + i * 8, none⟩ (.int .u16 r.1))).drew := ⟨_, rfl⟩
        have HB2 : Hid (Blk bb BT ((b1).set (2 + i * 8) (.int .u16 r.1)) W2) := Lib.hid (by rw [hW]; exact (HB1.out.set_ (2 + i * 8) (.int .u16 r.1)))
        have HL2 : Hid (Below B w W2) := Lib.hid (by rw [hW]; exact (Below.drew (HL1.out.setCell (p := ⟨bb, 2 + i * 8, none⟩) hbl (.int .u16 r.1))))
        have HG2 : Hid (wr.grownBy W2 (some bb)) := Lib.hid (by rw [hW]; exact (gdrew (gtr HG1.out (gset W1 bb (2 + i * 8) (.int .u16 r.1)))))
        rw [← hW]
        clear hW HB1 HL1 HG1 ku kf
        obtain ⟨u2, ku⟩ := cell_ex HB2.out (idx := 2 + i * 8 + 1) (by first | omega | (simp only [List.length_set]; omega))
        have kf := HB2.out.frozen
        go_wp2_with fail
        refine (HU.out _ 4 _ _ _ (hi r.2.1 * 256 + lo r.2.1) (by first | exact HL2.out) (by omega) (by omega) (by omega) (by rw [HBE.out]; rfl)).mono ?_
        rintro e w' ⟨rfl, rfl⟩
        go_upto_region 22 with (fail)
        obtain ⟨W3, hW⟩ : ∃ X, X = ((W2.setCell ⟨bb, 2 + i * 8 + 1, none⟩ (.int .i16 r.2.1))).drew := ⟨_, rfl⟩
        have HB3 : Hid (Blk bb BT (((b1).set (2 + i * 8) (.int .u16 r.1)).set (2 + i * 8 + 1) (.int .i16 r.2.1)) W3) := Lib.hid (by rw [hW]; exact (HB2.out.set_ (2 + i * 8 + 1) (.int .i16 r.2.1)))
        have HL3 : Hid (Below B w W3) := Lib.hid (by rw [hW]; exact (Below.drew (HL2.out.setCell (p := ⟨bb, 2 + i * 8 + 1, none⟩) hbl (.int .i16 r.2.1))))
        have HG3 : Hid (wr.grownBy W3 (some bb)) := Lib.hid (by rw [hW]; exact (gdrew (gtr HG2.out (gset W2 bb (2 + i * 8 + 1) (.int .i16 r.2.1)))))
        rw [← hW]
        clear hW HB2 HL2 HG2 ku kf
        obtain ⟨u3, ku⟩ := cell_ex HB3.out (idx := 2 + i * 8 + 2) (by first | omega | (simp only [List.length_set]; omega))
        have kf := HB3.out.frozen
        go_wp2_with fail
        refine (HU.out _ 6 _ _ _ (hi r.2.2.1 * 256 + lo r.2.2.1) (by first | exact HL3.out) (by omega) (by omega) (by omega) (by rw [HBE.out]; rfl)).mono ?_
        rintro e w' ⟨rfl, rfl⟩
        go_upto_region 23 with (fail)
        obtain ⟨W4, hW⟩ : ∃ X, X = ((W3.setCell ⟨bb, 2 + i * 8 + 2, none⟩ (.int .i16 r.2.2.1))).drew := ⟨_, rfl⟩
        have HB4 : Hid (Blk bb BT ((((b1).set (2 + i * 8) (.int .u16 r.1)).set (2 + i * 8 + 1) (.int .i16 r.2.1)).set (2 + i * 8 + 2) (.int .i16 r.2.2.1)) W4) := Lib.hid (by rw [hW]; exact (HB3.out.set_ (2 + i * 8 + 2) (.int .i16 r.2.2.1)))
        have HL4 : Hid (Below B w W4) := Lib.hid (by rw [hW]; exact (Below.drew (HL3.out.setCell (p := ⟨bb, 2 + i * 8 + 2, none⟩) hbl (.int .i16 r.2.2.1))))
        have HG4 : Hid (wr.grownBy W4 (some bb)) := Lib.hid (by rw [hW]; exact (gdrew (gtr HG3.out (gset W3 bb (2 + i * 8 + 2) (.int .i16 r.2.2.1)))))
        rw [← hW]
        clear hW HB3 HL3 HG3 ku kf
        obtain ⟨u4, ku⟩ := cell_ex HB4.out (idx := 2 + i * 8 + 3) (by first | omega | (simp only [List.length_set]; omega))
        have kf := HB4.out.frozen
        go_upto_region 39 with (fail)
        obtain ⟨W5, hW⟩ : ∃ X, X = (W4.setCell ⟨bb, 2 + i * 8 + 3, none⟩ (.bool true)) := ⟨_, rfl⟩
        have HB5 : Hid (Blk bb BT (((((b1).set (2 + i * 8) (.int .u16 r.1)).set (2 + i * 8 + 1) (.int .i16 r.2.1)).set (2 + i * 8 + 2) (.int .i16 r.2.2.1)).set (2 + i * 8 + 3) (.bool true)) W5) := Lib.hid (by rw [hW]; exact (HB4.out.set_ (2 + i * 8 + 3) (.bool true)))
        have HL5 : Hid (Below B w W5) := Lib.hid (by rw [hW]; exact (HL4.out.setCell (p := ⟨bb, 2 + i * 8 + 3, none⟩) hbl (.bool true)))
        have HG5 : Hid (wr.grownBy W5 (some bb)) := Lib.hid (by rw [hW]; exact (gtr HG4.out (gset W4 bb (2 + i * 8 + 3) (.bool true))))
        rw [← hW]
        clear hW HB4 HL4 HG4 ku kf
        obtain ⟨u5, ku⟩ := cell_ex HB5.out (idx := 2 + i * 8 + 4) (by first | omega | (simp only [List.length_set]; omega))
        have kf := HB5.out.frozen
        go_wp2_with fail
        refine (HU.out _ 8 _ _ _ (hi (r.2.2.2.1 * 4096) * 256 + lo (r.2.2.2.1 * 4096)) (by first | exact HL5.out) (by omega) (by omega) (by omega) (by rw [HBE.out]; rfl)).mono ?_
        rintro e w' ⟨rfl, rfl⟩
        go_upto_region 40 with (fail)
        obtain ⟨W6, hW⟩ : ∃ X, X = ((W5.setCell ⟨bb, 2 + i * 8 + 4, none⟩ (.int .i16 (r.2.2.2.1 * 4096)))).drew := ⟨_, rfl⟩
        have HB6 : Hid (Blk bb BT ((((((b1).set (2 + i * 8) (.int .u16 r.1)).set (2 + i * 8 + 1) (.int .i16 r.2.1)).set (2 + i * 8 + 2) (.int .i16 r.2.2.1)).set (2 + i * 8 + 3) (.bool true)).set (2 + i * 8 + 4) (.int .i16 (r.2.2.2.1 * 4096))) W6) := Lib.hid (by rw [hW]; exact (HB5.out.set_ (2 + i * 8 + 4) (.int .i16 (r.2.2.2.1 * 4096))))
        have HL6 : Hid (Below B w W6) := Lib.hid (by rw [hW]; exact (Below.drew (HL5.out.setCell (p := ⟨bb, 2 + i * 8 + 4, none⟩) hbl (.int .i16 (r.2.2.2.1 * 4096)))))
        have HG6 : Hid (wr.grownBy W6 (some bb)) := Lib.hid (by rw [hW]; exact (gdrew (gtr HG5.out (gset W5 bb (2 + i * 8 + 4) (.int .i16 (r.2.2.2.1 * 4096))))))
        rw [← hW]
        clear hW HB5 HL5 HG5 ku kf
        obtain ⟨u6, ku⟩ := cell_ex HB6.out (idx := 2 + i * 8 + 5) (by first | omega | (simp only [List.length_set]; omega))
        have kf := HB6.out.frozen
        go_upto_region 41 with (fail)
        obtain ⟨W7, hW⟩ : ∃ X, X = (W6.setCell ⟨bb, 2 + i * 8 + 5, none⟩ (.int .i16 0)) := ⟨_, rfl⟩
        have HB7 : Hid (Blk bb BT (((((((b1).set (2 + i * 8) (.int .u16 r.1)).set (2 + i * 8 + 1) (.int .i16 r.2.1)).set (2 + i * 8 + 2) (.int .i16 r.2.2.1)).set (2 + i * 8 + 3) (.bool true)).set (2 + i * 8 + 4) (.int .i16 (r.2.2.2.1 * 4096))).set (2 + i * 8 + 5) (.int .i16 0)) W7) := Lib.hid (by rw [hW]; exact (HB6.out.set_ (2 + i * 8 + 5) (.int .i16 0)))
        have HL7 : Hid (Below B w W7) := Lib.hid (by rw [hW]; exact (HL6.out.setCell (p := ⟨bb, 2 + i * 8 + 5, none⟩) hbl (.int .i16 0)))
        have HG7 : Hid (wr.grownBy W7 (some bb)) := Lib.hid (by rw [hW]; exact (gtr HG6.out (gset W6 bb (2 + i * 8 + 5) (.int .i16 0))))
        rw [← hW]
        clear hW HB6 HL6 HG6 ku kf
        obtain ⟨u7, ku⟩ := cell_ex HB7.out (idx := 2 + i * 8 + 6) (by first | omega | (simp only [List.length_set]; omega))
        have kf := HB7.out.frozen
        go_upto_region 42 with (fail)
        obtain ⟨W8, hW⟩ : ∃ X, X = (W7.setCell ⟨bb, 2 + i * 8 + 6, none⟩ (.int .i16 0)) := ⟨_, rfl⟩
        have HB8 : Hid (Blk bb BT ((((((((b1).set (2 + i * 8) (.int .u16 r.1)).set (2 + i * 8 + 1) (.int .i16 r.2.1)).set (2 + i * 8 + 2) (.int .i16 r.2.2.1)).set (2 + i * 8 + 3) (.bool true)).set (2 + i * 8 + 4) (.int .i16 (r.2.2.2.1 * 4096))).set (2 + i * 8 + 5) (.int .i16 0)).set (2 + i * 8 + 6) (.int .i16 0)) W8) := Lib.hid (by rw [hW]; exact (HB7.out.set_ (2 + i * 8 + 6) (.int .i16 0)))
        have HL8 : Hid (Below B w W8) := Lib.hid (by rw [hW]; exact (HL7.out.setCell (p := ⟨bb, 2 + i * 8 + 6, none⟩) hbl (.int .i16 0)))
        have HG8 : Hid (wr.grownBy W8 (some bb)) := Lib.hid (by rw [hW]; exact (gtr HG7.out (gset W7 bb (2 + i * 8 + 6) (.int .i16 0))))
        rw [← hW]
        clear hW HB7 HL7 HG7 ku kf
        obtain ⟨u8, ku⟩ := cell_ex HB8.out (idx := 2 + i * 8 + 7) (by first | omega | (simp only [List.length_set]; omega))
        have kf := HB8.out.frozen
        go_wp2_with fail
        refine (HU.out _ 10 _ _ _ (hi (r.2.2.2.2 * 4096) * 256 + lo (r.2.2.2.2 * 4096)) (by first | exact HL8.out) (by omega) (by omega) (by omega) (by rw [HBE.out]; rfl)).mono ?_
        rintro e w' ⟨rfl, rfl⟩
        go_upto_region 43 with (fail)
        obtain ⟨W9, hW⟩ : ∃ X, X = ((W8.setCell ⟨bb, 2 + i * 8 + 7, none⟩ (.int .i16 (r.2.2.2.2 * 4096)))).drew := ⟨_, rfl⟩
        have HB9 : Hid (Blk bb BT (((((((((b1).set (2 + i * 8) (.int .u16 r.1)).set (2 + i * 8 + 1) (.int .i16 r.2.1)).set (2 + i * 8 + 2) (.int .i16 r.2.2.1)).set (2 + i * 8 + 3) (.bool true)).set (2 + i * 8 + 4) (.int .i16 (r.2.2.2.1 * 4096))).set (2 + i * 8 + 5) (.int .i16 0)).set (2 + i * 8 + 6) (.int .i16 0)).set (2 + i * 8 + 7) (.int .i16 (r.2.2.2.2 * 4096))) W9) := Lib.hid (by rw [hW]; exact (HB8.out.set_ (2 + i * 8 + 7) (.int .i16 (r.2.2.2.2 * 4096))))
        have HL9 : Hid (Below B w W9) := Lib.hid (by rw [hW]; exact (Below.drew (HL8.out.setCell (p := ⟨bb, 2 + i * 8 + 7, none⟩) hbl (.int .i16 (r.2.2.2.2 * 4096)))))
        have HG9 : Hid (wr.grownBy W9 (some bb)) := Lib.hid (by rw [hW]; exact (gdrew (gtr HG8.out (gset W8 bb (2 + i * 8 + 7) (.int .i16 (r.2.2.2.2 * 4096))))))
        rw [← hW]
        clear hW HB8 HL8 HG8 ku kf
        have hst := stk_lay (ht := true) (xx := 0) (yy := 0) (c := [.int .u16 r.1, .int .i16 r.2.1, .int .i16 r.2.2.1, .bool true, .int .i16 (r.2.2.2.1 * 4096), .int .i16 0, .int .i16 0, .int .i16 (r.2.2.2.2 * 4096)]) HR.out.2.2.2.2.2.2.2.2.2.1 (by rw [HR.out.2.2.2.2.2.2.2.2.1]; have := HP.out.2.2.2.2.2.2.1; omega) (by simp) (by rw [HR.out.2.2.2.2.2.2.2.2.2.2.2.1]; rfl) (by rw [HR.out.2.2.2.2.2.2.2.2.2.2.2.1]; rfl) (by rw [HR.out.2.2.2.2.2.2.2.2.2.2.2.1]; rfl) rfl (fun _ => ⟨rfl, by rw [HR.out.2.2.2.2.2.2.2.2.2.2.2.1]; rfl, rfl, rfl, by rw [HR.out.2.2.2.2.2.2.2.2.2.2.2.1]; rfl⟩) (fun h => by cases h)
        have hl0 : (lay b1 (2 + i * 8) [.int .u16 r.1, .int .i16 r.2.1, .int .i16 r.2.2.1, .bool true, .int .i16 (r.2.2.2.1 * 4096), .int .i16 0, .int .i16 0, .int .i16 (r.2.2.2.2 * 4096)])[0]? = bd[0]? := by rw [lay_out _ _ _ _ (.inl (by omega))]; exact HR.out.2.2.2.2.2.2.2.1
        have hl1 : (lay b1 (2 + i * 8) [.int .u16 r.1, .int .i16 r.2.1, .int .i16 r.2.2.1, .bool true, .int .i16 (r.2.2.2.1 * 4096), .int .i16 0, .int .i16 0, .int .i16 (r.2.2.2.2 * 4096)])[1]? = some v1 := by rw [lay_out _ _ _ _ (.inl (by omega))]; exact HR.out.2.2.2.2.2.2.2.2.2.2.2.2.2.2.2.2.2.1
        have hll : (lay b1 (2 + i * 8) [.int .u16 r.1, .int .i16 r.2.1, .int .i16 r.2.2.1, .bool true, .int .i16 (r.2.2.2.1 * 4096), .int .i16 0, .int .i16 0, .int .i16 (r.2.2.2.2 * 4096)]).length = bd.length := by rw [lay_len]; exact HR.out.2.2.2.2.2.2.2.2.1
        have hbw : Blk bb BT (lay b1 (2 + i * 8) [.int .u16 r.1, .int .i16 r.2.1, .int .i16 r.2.2.1, .bool true, .int .i16 (r.2.2.2.1 * 4096), .int .i16 0, .int .i16 0, .int .i16 (r.2.2.2.2 * 4096)]) W9 := HB9.out
        have hsg := (HR.out.2.2.2.2.2.2.2.2.2.2.2.2.2.2.2.2.2.2.1).grown HR.out.2.2.2.2.2.2.1 (by decide) HG9.out
        have HST := Lib.hid (And.intro hst (And.intro hl0 (And.intro hl1 (And.intro hll (And.intro hbw hsg)))))
        clear hst hl0 hl1 hll hbw hsg
        have hni : n = i + 1 := by
          have h1 := congrArg List.length HR.out.2.2.2.2.2.2.2.2.2.2.2.2.1
          rw [(HR.out.2.2.2.1 (by first | rfl | trivial)).1, List.length_drop, List.length_nil] at h1
          have := HP.out.1
          omega
        have HNI := Lib.hid hni
        clear hni
        repeat (first | ((with_reducible refine Gate.seqr2 53 ?_); refine qrest w B fb bb n (lay b1 (2 + i * 8) [.int .u16 r.1, .int .i16 r.2.1, .int .i16 r.2.2.1, .bool true, .int .i16 (r.2.2.2.1 * 4096), .int .i16 0, .int .i16 0, .int .i16 (r.2.2.2.2 * 4096)]) L0 Gs Rs _ _ _ (by kernel_rfl) (by exact rfl) (by exact rfl) (by exact rfl) (by exact rfl) (by exact rfl) (by exact rfl) (by rw [HNI.out]; exact rfl) HP.out.1 hn3 hL0 hBw (by rw [HNI.out]; exact HST.out.1) ⟨HST.out.2.2.2.2.1, hbl, v1, HST.out.2.2.1, HST.out.2.2.2.2.2⟩ HL9.out HP.out.2.2.2.2.2.2.2.1 (fun j hj W' bd' L h1 h2 h3 h4 => HP.out.2.2.2.2.2.2.2.2.2 j hj W' bd' L h1 ((h2.2 0 (by decide)).trans HST.out.2.1) h3 h4)) | go_values | go_skip | go_guarded | go_step | go_upon | go_back)
    · as_aux_lemma =>
        have hbs : bs = words [131, r.1] ++ dxy false r ++ scl 3 r := HR.out.2.2.2.2.2.2.2.2.2.2.2.2.2.1
        have hbe : p1 = hi 131 :: lo 131 :: hi r.1 :: lo r.1 :: hi r.2.1 :: lo r.2.1 :: hi r.2.2.1 :: lo r.2.2.1 :: hi (r.2.2.2.1 * 4096) :: lo (r.2.2.2.1 * 4096) :: hi 0 :: lo 0 :: hi 0 :: lo 0 :: hi (r.2.2.2.2 * 4096) :: lo (r.2.2.2.2 * 4096) :: tl := by rw [HR.out.2.2.1, hbs]; rfl
        have hm1 : m1 = 16 + tl.length := by rw [HR.out.2.1, hbe]; simp; omega
        have HBE := Lib.hid hbe
        have HML := Lib.hid hm1
        have hw0 : hi 131 * 256 + lo 131 = 131 := by decide
        have htl := (HR.out.2.2.2.1 (by first | rfl | trivial)).2
        have htl0 : tl.length = 0 := by rw [htl]; rfl
        have hmt : 16 ≤ m1 := by omega
        have hmt2 : m1 = 16 := by omega
        clear hbs hbe hm1 htl htl0
        have fb1 : (bits BinOp.and IntKind.u16 131 1 == 0) = false := by decide
        have fb2 : (bits BinOp.and IntKind.u16 131 2 == 0) = false := by decide
        have fb200 : (bits BinOp.and IntKind.u16 131 200 != 0) = true := by decide
        have fb8 : (bits BinOp.and IntKind.u16 131 8 != 0) = false := by decide
        have fb64 : (bits BinOp.and IntKind.u16 131 64 != 0) = false := by decide
        have fb128 : (bits BinOp.and IntKind.u16 131 128 != 0) = true := by decide
        have fb32 : (bits BinOp.and IntKind.u16 131 32 == 0) = true := by decide
        have n2 : ¬ c1 = 2 := by omega
        have z2 : (2 : Int) ≤ (c1 : Int) := by omega
        have n4 : ¬ c1 = 4 := by omega
        have z4 : (4 : Int) ≤ (c1 : Int) := by omega
        have n6 : ¬ c1 = 6 := by omega
        have z6 : (6 : Int) ≤ (c1 : Int) := by omega
        have n8 : ¬ c1 = 8 := by omega
        have z8 : (8 : Int) ≤ (c1 : Int) := by omega
        have n10 : ¬ c1 = 10 := by omega
        have z10 : (10 : Int) ≤ (c1 : Int) := by omega
        have n12 : ¬ c1 = 12 := by omega
        have z12 : (12 : Int) ≤ (c1 : Int) := by omega
        have n14 : ¬ c1 = 14 := by omega
        have z14 : (14 : Int) ≤ (c1 : Int) := by omega
        have z16 : (16 : Int) ≤ (c1 : Int) := by omega
        have y2 : ¬ c1 - 8 = 2 := by omega
        have x2 : (2 : Int) ≤ ((c1 - 8 : Nat) : Int) := by omega
        have y4 : ¬ c1 - 8 = 4 := by omega
        have x4 : (4 : Int) ≤ ((c1 - 8 : Nat) : Int) := by omega
        have y6 : ¬ c1 - 8 = 6 := by omega
        have x6 : (6 : Int) ≤ ((c1 - 8 : Nat) : Int) := by omega
        have x8 : (8 : Int) ≤ ((c1 - 8 : Nat) : Int) := by omega
        have la : ¬ ((m1 : Int) < 4) := by omega
        have lb : ¬ ((m1 : Int) < 8) := by omega
        have lc : ¬ (((m1 - 8 : Nat) : Int) < 8) := by omega
        have wi1 : IntKind.u32.wrap ((i : Int) + 1) = (i : Int) + 1 := IntWalk.u32_in _ (by omega)
        have HB0 : Hid (Blk bb BT b1 wr) := Lib.hid HR.out.2.2.2.2.2.2.1
        have HL0 : Hid (Below B w wr) := Lib.hid HR.out.2.2.2.2.2.2.2.2.2.2.1
        have HG0 : Hid (wr.grownBy wr (some bb)) := Lib.hid (ItE.gself wr _)
        have hB6 : 600 ≤ b1.length := by rw [HR.out.2.2.2.2.2.2.2.2.1]; exact HP.out.2.2.2.2.2.2.1
        go_wp2_with fail
        refine (HU.out _ 0 _ _ _ (131) (by first | exact HL0.out) (by omega) (by omega) (by omega) (by rw [HBE.out]; exact hw0)).mono ?_
        rintro e w' ⟨rfl, rfl⟩
        go_upto_region 12 with (fail)
        obtain ⟨W1, hW⟩ : ∃ X, X = (wr).drew := ⟨_, rfl⟩
        have HB1 : Hid (Blk bb BT (b1) W1) := Lib.hid (by rw [hW]; exact HB0.out)
        have HL1 : Hid (Below B w W1) := Lib.hid (by rw [hW]; exact (Below.drew HL0.out))
        have HG1 : Hid (wr.grownBy W1 (some bb)) := Lib.hid (by rw [hW]; exact (gdrew HG0.out))
        rw [← hW]
        clear hW HB0 HL0 HG0
        obtain ⟨u1, ku⟩ := cell_ex HB1.out (idx := 2 + i * 8) (by first | omega | (simp only [List.length_set]; omega))
        have kf := HB1.out.frozen
        go_wp2_with fail
        refine (HU.out _ 2 _ _ _ (r.1) (by first | exact HL1.out) (by omega) (by omega) (by omega) (by rw [HBE.out]; exact wg)).mono ?_
        rintro e w' ⟨rfl, rfl⟩
        go_upto_region 13 with (fail)
        obtain ⟨W2, hW⟩ : ∃ X, X = ((W1.setCell ⟨bb, 2 + i * 8, none⟩ (.int .u16 r.1))).drew := ⟨_, rfl⟩
        have HB2 : Hid (Blk bb BT ((b1).set (2 + i * 8) (.int .u16 r.1)) W2) := Lib.hid (by rw [hW]; exact (HB1.out.set_ (2 + i * 8) (.int .u16 r.1)))
        have HL2 : Hid (Below B w W2) := Lib.hid (by rw [hW]; exact (Below.drew (HL1.out.setCell (p := ⟨bb, 2 + i * 8, none⟩) hbl (.int .u16 r.1))))
        have HG2 : Hid (wr.grownBy W2 (some bb)) := Lib.hid (by rw [hW]; exact (gdrew (gtr HG1.out (gset W1 bb (2 + i * 8) (.int .u16 r.1)))))
        rw [← hW]
        clear hW HB1 HL1 HG1 ku kf
        obtain ⟨u2, ku⟩ := cell_ex HB2.out (idx := 2 + i * 8 + 1) (by first | omega | (simp only [List.length_set]; omega))
        have kf := HB2.out.frozen
        go_wp2_with fail
        refine (HU.out _ 4 _ _ _ (hi r.2.1 * 256 + lo r.2.1) (by first | exact HL2.out) (by omega) (by omega) (by omega) (by rw [HBE.out]; rfl)).mono ?_
        rintro e w' ⟨rfl, rfl⟩
        go_upto_region 22 with (fail)
        obtain ⟨W3, hW⟩ : ∃ X, X = ((W2.setCell ⟨bb, 2 + i * 8 + 1, none⟩ (.int .i16 r.2.1))).drew := ⟨_, rfl⟩
        have HB3 : Hid (Blk bb BT (((b1).set (2 + i * 8) (.int .u16 r.1)).set (2 + i * 8 + 1) (.int .i16 r.2.1)) W3) := Lib.hid (by rw [hW]; exact (HB2.out.set_ (2 + i * 8 + 1) (.int .i16 r.2.1)))
        have HL3 : Hid (Below B w W3) := Lib.hid (by rw [hW]; exact (Below.drew (HL2.out.setCell (p := ⟨bb, 2 + i * 8 + 1, none⟩) hbl (.int .i16 r.2.1))))
        have HG3 : Hid (wr.grownBy W3 (some bb)) := Lib.hid (by rw [hW]; exact (gdrew (gtr HG2.out (gset W2 bb (2 + i * 8 + 1) (.int .i16 r.2.1)))))
        rw [← hW]
        clear hW HB2 HL2 HG2 ku kf
        obtain ⟨u3, ku⟩ := cell_ex HB3.out (idx := 2 + i * 8 + 2) (by first | omega | (simp only [List.length_set]; omega))
        have kf := HB3.out.frozen
        go_wp2_with fail
        refine (HU.out _ 6 _ _ _ (hi r.2.2.1 * 256 + lo r.2.2.1) (by first | exact HL3.out) (by omega) (by omega) (by omega) (by rw [HBE.out]; rfl)).mono ?_
        rintro e w' ⟨rfl, rfl⟩
        go_upto_region 23 with (fail)
        obtain ⟨W4, hW⟩ : ∃ X, X = ((W3.setCell ⟨bb, 2 + i * 8 + 2, none⟩ (.int .i16 r.2.2.1))).drew := ⟨_, rfl⟩
        have HB4 : Hid (Blk bb BT ((((b1).set (2 + i * 8) (.int .u16 r.1)).set (2 + i * 8 + 1) (.int .i16 r.2.1)).set (2 + i * 8 + 2) (.int .i16 r.2.2.1)) W4) := Lib.hid (by rw [hW]; exact (HB3.out.set_ (2 + i * 8 + 2) (.int .i16 r.2.2.1)))
        have HL4 : Hid (Below B w W4) := Lib.hid (by rw [hW]; exact (Below.drew (HL3.out.setCell (p := ⟨bb, 2 + i * 8 + 2, none⟩) hbl (.int .i16 r.2.2.1))))
        have HG4 : Hid (wr.grownBy W4 (some bb)) := Lib.hid (by rw [hW]; exact (gdrew (gtr HG3.out (gset W3 bb (2 + i * 8 + 2) (.int .i16 r.2.2.1)))))
        rw [← hW]
        clear hW HB3 HL3 HG3 ku kf
        obtain ⟨u4, ku⟩ := cell_ex HB4.out (idx := 2 + i * 8 + 3) (by first | omega | (simp only [List.length_set]; omega))
        have kf := HB4.out.frozen
        go_upto_region 47 with (fail)
        obtain ⟨W5, hW⟩ : ∃ X, X = (W4.setCell ⟨bb, 2 + i * 8 + 3, none⟩ (.bool true)) := ⟨_, rfl⟩
        have HB5 : Hid (Blk bb BT (((((b1).set (2 + i * 8) (.int .u16 r.1)).set (2 + i * 8 + 1) (.int .i16 r.2.1)).set (2 + i * 8 + 2) (.int .i16 r.2.2.1)).set (2 + i * 8 + 3) (.bool true)) W5) := Lib.hid (by rw [hW]; exact (HB4.out.set_ (2 + i * 8 + 3) (.bool true)))
        have HL5 : Hid (Below B w W5) := Lib.hid (by rw [hW]; exact (HL4.out.setCell (p := ⟨bb, 2 + i * 8 + 3, none⟩) hbl (.bool true)))
        have HG5 : Hid (wr.grownBy W5 (some bb)) := Lib.hid (by rw [hW]; exact (gtr HG4.out (gset W4 bb (2 + i * 8 + 3) (.bool true))))
        rw [← hW]
        clear hW HB4 HL4 HG4 ku kf
        obtain ⟨u5, ku⟩ := cell_ex HB5.out (idx := 2 + i * 8 + 4) (by first | omega | (simp only [List.length_set]; omega))
        have kf := HB5.out.frozen
        go_wp2_with fail
        refine (HU.out _ 8 _ _ _ (hi (r.2.2.2.1 * 4096) * 256 + lo (r.2.2.2.1 * 4096)) (by first | exact HL5.out) (by omega) (by omega) (by omega) (by rw [HBE.out]; rfl)).mono ?_
        rintro e w' ⟨rfl, rfl⟩
        go_upto_region 48 with (fail)
        obtain ⟨W6, hW⟩ : ∃ X, X = ((W5.setCell ⟨bb, 2 + i * 8 + 4, none⟩ (.int .i16 (r.2.2.2.1 * 4096)))).drew := ⟨_, rfl⟩
        have HB6 : Hid (Blk bb BT ((((((b1).set (2 + i * 8) (.int .u16 r.1)).set (2 + i * 8 + 1) (.int .i16 r.2.1)).set (2 + i * 8 + 2) (.int .i16 r.2.2.1)).set (2 + i * 8 + 3) (.bool true)).set (2 + i * 8 + 4) (.int .i16 (r.2.2.2.1 * 4096))) W6) := Lib.hid (by rw [hW]; exact (HB5.out.set_ (2 + i * 8 + 4) (.int .i16 (r.2.2.2.1 * 4096))))
        have HL6 : Hid (Below B w W6) := Lib.hid (by rw [hW]; exact (Below.drew (HL5.out.setCell (p := ⟨bb, 2 + i * 8 + 4, none⟩) hbl (.int .i16 (r.2.2.2.1 * 4096)))))
        have HG6 : Hid (wr.grownBy W6 (some bb)) := Lib.hid (by rw [hW]; exact (gdrew (gtr HG5.out (gset W5 bb (2 + i * 8 + 4) (.int .i16 (r.2.2.2.1 * 4096))))))
        rw [← hW]
        clear hW HB5 HL5 HG5 ku kf
        obtain ⟨u6, ku⟩ := cell_ex HB6.out (idx := 2 + i * 8 + 5) (by first | omega | (simp only [List.length_set]; omega))
        have kf := HB6.out.frozen
        go_wp2_with fail
        refine (HU.out _ 10 _ _ _ (0) (by first | exact HL6.out) (by omega) (by omega) (by omega) (by rw [HBE.out]; rfl)).mono ?_
        rintro e w' ⟨rfl, rfl⟩
        go_upto_region 49 with (fail)
        obtain ⟨W7, hW⟩ : ∃ X, X = ((W6.setCell ⟨bb, 2 + i * 8 + 5, none⟩ (.int .i16 0))).drew := ⟨_, rfl⟩
        have HB7 : Hid (Blk bb BT (((((((b1).set (2 + i * 8) (.int .u16 r.1)).set (2 + i * 8 + 1) (.int .i16 r.2.1)).set (2 + i * 8 + 2) (.int .i16 r.2.2.1)).set (2 + i * 8 + 3) (.bool true)).set (2 + i * 8 + 4) (.int .i16 (r.2.2.2.1 * 4096))).set (2 + i * 8 + 5) (.int .i16 0)) W7) := Lib.hid (by rw [hW]; exact (HB6.out.set_ (2 + i * 8 + 5) (.int .i16 0)))
        have HL7 : Hid (Below B w W7) := Lib.hid (by rw [hW]; exact (Below.drew (HL6.out.setCell (p := ⟨bb, 2 + i * 8 + 5, none⟩) hbl (.int .i16 0))))
        have HG7 : Hid (wr.grownBy W7 (some bb)) := Lib.hid (by rw [hW]; exact (gdrew (gtr HG6.out (gset W6 bb (2 + i * 8 + 5) (.int .i16 0)))))
        rw [← hW]
        clear hW HB6 HL6 HG6 ku kf
        obtain ⟨u7, ku⟩ := cell_ex HB7.out (idx := 2 + i * 8 + 6) (by first | omega | (simp only [List.length_set]; omega))
        have kf := HB7.out.frozen
        go_wp2_with fail
        refine (HU.out _ 12 _ _ _ (0) (by first | exact HL7.out) (by omega) (by omega) (by omega) (by rw [HBE.out]; rfl)).mono ?_
        rintro e w' ⟨rfl, rfl⟩
        go_upto_region 50 with (fail)
        obtain ⟨W8, hW⟩ : ∃ X, X = ((W7.setCell ⟨bb, 2 + i * 8 + 6, none⟩ (.int .i16 0))).drew := ⟨_, rfl⟩
        have HB8 : Hid (Blk bb BT ((((((((b1).set (2 + i * 8) (.int .u16 r.1)).set (2 + i * 8 + 1) (.int .i16 r.2.1)).set (2 + i * 8 + 2) (.int .i16 r.2.2.1)).set (2 + i * 8 + 3) (.bool true)).set (2 + i * 8 + 4) (.int .i16 (r.2.2.2.1 * 4096))).set (2 + i * 8 + 5) (.int .i16 0)).set (2 + i * 8 + 6) (.int .i16 0)) W8) := Lib.hid (by rw [hW]; exact (HB7.out.set_ (2 + i * 8 + 6) (.int .i16 0)))
        have HL8 : Hid (Below B w W8) := Lib.hid (by rw [hW]; exact (Below.drew (HL7.out.setCell (p := ⟨bb, 2 + i * 8 + 6, none⟩) hbl (.int .i16 0))))
        have HG8 : Hid (wr.grownBy W8 (some bb)) := Lib.hid (by rw [hW]; exact (gdrew (gtr HG7.out (gset W7 bb (2 + i * 8 + 6) (.int .i16 0)))))
        rw [← hW]
        clear hW HB7 HL7 HG7 ku kf
        obtain ⟨u8, ku⟩ := cell_ex HB8.out (idx := 2 + i * 8 + 7) (by first | omega | (simp only [List.length_set]; omega))
        have kf := HB8.out.frozen
        go_wp2_with fail
        refine (HU.out _ 14 _ _ _ (hi (r.2.2.2.2 * 4096) * 256 + lo (r.2.2.2.2 * 4096)) (by first | exact HL8.out) (by omega) (by omega) (by omega) (by rw [HBE.out]; rfl)).mono ?_
        rintro e w' ⟨rfl, rfl⟩
        go_upto_region 51 with (fail)
        obtain ⟨W9, hW⟩ : ∃ X, X = ((W8.setCell ⟨bb, 2 + i * 8 + 7, none⟩ (.int .i16 (r.2.2.2.2 * 4096)))).drew := ⟨_, rfl⟩
        have HB9 : Hid (Blk bb BT (((((((((b1).set (2 + i * 8) (.int .u16 r.1)).set (2 + i * 8 + 1) (.int .i16 r.2.1)).set (2 + i * 8 + 2) (.int .i16 r.2.2.1)).set (2 + i * 8 + 3) (.bool true)).set (2 + i * 8 + 4) (.int .i16 (r.2.2.2.1 * 4096))).set (2 + i * 8 + 5) (.int .i16 0)).set (2 + i * 8 + 6) (.int .i16 0)).set (2 + i * 8 + 7) (.int .i16 (r.2.2.2.2 * 4096))) W9) := Lib.hid (by rw [hW]; exact (HB8.out.set_ (2 + i * 8 + 7) (.int .i16 (r.2.2.2.2 * 4096))))
        have HL9 : Hid (Below B w W9) := Lib.hid (by rw [hW]; exact (Below.drew (HL8.out.setCell (p := ⟨bb, 2 + i * 8 + 7, none⟩) hbl (.int .i16 (r.2.2.2.2 * 4096)))))
        have HG9 : Hid (wr.grownBy W9 (some bb)) := Lib.hid (by rw [hW]; exact (gdrew (gtr HG8.out (gset W8 bb (2 + i * 8 + 7) (.int .i16 (r.2.2.2.2 * 4096))))))
        rw [← hW]
        clear hW HB8 HL8 HG8 ku kf
        have hst := stk_lay (ht := true) (xx := 0) (yy := 0) (c := [.int .u16 r.1, .int .i16 r.2.1, .int .i16 r.2.2.1, .bool true, .int .i16 (r.2.2.2.1 * 4096), .int .i16 0, .int .i16 0, .int .i16 (r.2.2.2.2 * 4096)]) HR.out.2.2.2.2.2.2.2.2.2.1 (by rw [HR.out.2.2.2.2.2.2.2.2.1]; have := HP.out.2.2.2.2.2.2.1; omega) (by simp) (by rw [HR.out.2.2.2.2.2.2.2.2.2.2.2.1]; rfl) (by rw [HR.out.2.2.2.2.2.2.2.2.2.2.2.1]; rfl) (by rw [HR.out.2.2.2.2.2.2.2.2.2.2.2.1]; rfl) rfl (fun _ => ⟨rfl, by rw [HR.out.2.2.2.2.2.2.2.2.2.2.2.1]; rfl, rfl, rfl, by rw [HR.out.2.2.2.2.2.2.2.2.2.2.2.1]; rfl⟩) (fun h => by cases h)
        have hl0 : (lay b1 (2 + i * 8) [.int .u16 r.1, .int .i16 r.2.1, .int .i16 r.2.2.1, .bool true, .int .i16 (r.2.2.2.1 * 4096), .int .i16 0, .int .i16 0, .int .i16 (r.2.2.2.2 * 4096)])[0]? = bd[0]? := by rw [lay_out _ _ _ _ (.inl (by omega))]; exact HR.out.2.2.2.2.2.2.2.1
        have hl1 : (lay b1 (2 + i * 8) [.int .u16 r.1, .int .i16 r.2.1, .int .i16 r.2.2.1, .bool true, .int .i16 (r.2.2.2.1 * 4096), .int .i16 0, .int .i16 0, .int .i16 (r.2.2.2.2 * 4096)])[1]? = some v1 := by rw [lay_out _ _ _ _ (.inl (by omega))]; exact HR.out.2.2.2.2.2.2.2.2.2.2.2.2.2.2.2.2.2.1
        have hll : (lay b1 (2 + i * 8) [.int .u16 r.1, .int .i16 r.2.1, .int .i16 r.2.2.1, .bool true, .int .i16 (r.2.2.2.1 * 4096), .int .i16 0, .int .i16 0, .int .i16 (r.2.2.2.2 * 4096)]).length = bd.length := by rw [lay_len]; exact HR.out.2.2.2.2.2.2.2.2.1
        have hbw : Blk bb BT (lay b1 (2 + i * 8) [.int .u16 r.1, .int .i16 r.2.1, .int .i16 r.2.2.1, .bool true, .int .i16 (r.2.2.2.1 * 4096), .int .i16 0, .int .i16 0, .int .i16 (r.2.2.2.2 * 4096)]) W9 := HB9.out
        have hsg := (HR.out.2.2.2.2.2.2.2.2.2.2.2.2.2.2.2.2.2.2.1).grown HR.out.2.2.2.2.2.2.1 (by decide) HG9.out
        have HST := Lib.hid (And.intro hst (And.intro hl0 (And.intro hl1 (And.intro hll (And.intro hbw hsg)))))
        clear hst hl0 hl1 hll hbw hsg
        have hni : n = i + 1 := by
          have h1 := congrArg List.length HR.out.2.2.2.2.2.2.2.2.2.2.2.2.1
          rw [(HR.out.2.2.2.1 (by first | rfl | trivial)).1, List.length_drop, List.length_nil] at h1
          have := HP.out.1
          omega
        have HNI := Lib.hid hni
        clear hni
        repeat (first | ((with_reducible refine Gate.seqr2 53 ?_); refine qrest w B fb bb n (lay b1 (2 + i * 8) [.int .u16 r.1, .int .i16 r.2.1, .int .i16 r.2.2.1, .bool true, .int .i16 (r.2.2.2.1 * 4096), .int .i16 0, .int .i16 0, .int .i16 (r.2.2.2.2 * 4096)]) L0 Gs Rs _ _ _ (by kernel_rfl) (by exact rfl) (by exact rfl) (by exact rfl) (by exact rfl) (by exact rfl) (by exact rfl) (by rw [HNI.out]; exact rfl) HP.out.1 hn3 hL0 hBw (by rw [HNI.out]; exact HST.out.1) ⟨HST.out.2.2.2.2.1, hbl, v1, HST.out.2.2.1, HST.out.2.2.2.2.2⟩ HL9.out HP.out.2.2.2.2.2.2.2.1 (fun j hj W' bd' L h1 h2 h3 h4 => HP.out.2.2.2.2.2.2.2.2.2 j hj W' bd' L h1 ((h2.2 0 (by decide)).trans HST.out.2.1) h3 h4)) | go_values | go_skip | go_guarded | go_step | go_upon | go_back)
    · as_aux_lemma =>
        have hbs : bs = words [2, r.1] ++ dxy true r ++ scl 0 r := HR.out.2.2.2.2.2.2.2.2.2.2.2.2.2.1
        have hbe : p1 = hi 2 :: lo 2 :: hi r.1 :: lo r.1 :: lo r.2.1 :: lo r.2.2.1 :: tl := by rw [HR.out.2.2.1, hbs]; rfl
        have hm1 : m1 = 6 + tl.length := by rw [HR.out.2.1, hbe]; simp; omega
        have HBE := Lib.hid hbe
        have HML := Lib.hid hm1
        have hw0 : hi 2 * 256 + lo 2 = 2 := by decide
        have htl := (HR.out.2.2.2.1 (by first | rfl | trivial)).2
        have htl0 : tl.length = 0 := by rw [htl]; rfl
        have hmt : 6 ≤ m1 := by omega
        have hmt2 : m1 = 6 := by omega
        clear hbs hbe hm1 htl htl0
        have fb1 : (bits BinOp.and IntKind.u16 2 1 == 0) = true := by decide
        have fb2 : (bits BinOp.and IntKind.u16 2 2 == 0) = false := by decide
        have fb200 : (bits BinOp.and IntKind.u16 2 200 != 0) = false := by decide
        have fb8 : (bits BinOp.and IntKind.u16 2 8 != 0) = false := by decide
        have fb64 : (bits BinOp.and IntKind.u16 2 64 != 0) = false := by decide
        have fb128 : (bits BinOp.and IntKind.u16 2 128 != 0) = false := by decide
        have fb32 : (bits BinOp.and IntKind.u16 2 32 == 0) = true := by decide
        have n2 : ¬ c1 = 2 := by omega
        have z2 : (2 : Int) ≤ (c1 : Int) := by omega
        have z6 : (6 : Int) ≤ (c1 : Int) := by omega
        have la : ¬ ((m1 : Int) < 4) := by omega
        have lb : ¬ ((m1 : Int) < 6) := by omega
        have wi1 : IntKind.u32.wrap ((i : Int) + 1) = (i : Int) + 1 := IntWalk.u32_in _ (by omega)
        have si1 := small_in _ (HR.out.2.2.2.2.2.2.2.2.2.2.2.2.2.2.1 (by first | rfl | trivial)).1
        have si2 := small_in _ (HR.out.2.2.2.2.2.2.2.2.2.2.2.2.2.2.1 (by first | rfl | trivial)).2
        have si3 : IntKind.i16.wrap r.2.1 = r.2.1 := IntWalk.i16_in _ (by omega)
        have si4 : IntKind.i16.wrap r.2.2.1 = r.2.2.1 := IntWalk.i16_in _ (by omega)
        have q4 := byt_cell HR.out.1 (i := 4) (by have := HR.out.2.1; omega)
        have q5 := byt_cell HR.out.1 (i := 5) (by have := HR.out.2.1; omega)
        rw [HBE.out] at q4 q5
        have q4 : wr.cell? ⟨g, o1 + 4, none⟩ = some (.int .u8 (lo r.2.1)) := q4
        have q5 : wr.cell? ⟨g, o1 + 5, none⟩ = some (.int .u8 (lo r.2.2.1)) := q5
        have l4 : 4 < m1 := by omega
        have l5 : 5 < m1 := by omega
        have HB0 : Hid (Blk bb BT b1 wr) := Lib.hid HR.out.2.2.2.2.2.2.1
        have HL0 : Hid (Below B w wr) := Lib.hid HR.out.2.2.2.2.2.2.2.2.2.2.1
        have HG0 : Hid (wr.grownBy wr (some bb)) := Lib.hid (ItE.gself wr _)
        have hB6 : 600 ≤ b1.length := by rw [HR.out.2.2.2.2.2.2.2.2.1]; exact HP.out.2.2.2.2.2.2.1
        go_wp2_with fail
        refine (HU.out _ 0 _ _ _ (2) (by first | exact HL0.out) (by omega) (by omega) (by omega) (by rw [HBE.out]; exact hw0)).mono ?_
        rintro e w' ⟨rfl, rfl⟩
        go_upto_region 12 with (fail)
        obtain ⟨W1, hW⟩ : ∃ X, X = (wr).drew := ⟨_, rfl⟩
        have HB1 : Hid (Blk bb BT (b1) W1) := Lib.hid (by rw [hW]; exact HB0.out)
        have HL1 : Hid (Below B w W1) := Lib.hid (by rw [hW]; exact (Below.drew HL0.out))
        have HG1 : Hid (wr.grownBy W1 (some bb)) := Lib.hid (by rw [hW]; exact (gdrew HG0.out))
        rw [← hW]
        clear hW HB0 HL0 HG0
        obtain ⟨u1, ku⟩ := cell_ex HB1.out (idx := 2 + i * 8) (by first | omega | (simp only [List.length_set]; omega))
        have kf := HB1.out.frozen
        go_wp2_with fail
        refine (HU.out _ 2 _ _ _ (r.1) (by first | exact HL1.out) (by omega) (by omega) (by omega) (by rw [HBE.out]; exact wg)).mono ?_
        rintro e w' ⟨rfl, rfl⟩
        go_upto_region 13 with (fail)
        obtain ⟨W2, hW⟩ : ∃ X, X = ((W1.setCell ⟨bb, 2 + i * 8, none⟩ (.int .u16 r.1))).drew := ⟨_, rfl⟩
        have HB2 : Hid (Blk bb BT ((b1).set (2 + i * 8) (.int .u16 r.1)) W2) := Lib.hid (by rw [hW]; exact (HB1.out.set_ (2 + i * 8) (.int .u16 r.1)))
        have HL2 : Hid (Below B w W2) := Lib.hid (by rw [hW]; exact (Below.drew (HL1.out.setCell (p := ⟨bb, 2 + i * 8, none⟩) hbl (.int .u16 r.1))))
        have HG2 : Hid (wr.grownBy W2 (some bb)) := Lib.hid (by rw [hW]; exact (gdrew (gtr HG1.out (gset W1 bb (2 + i * 8) (.int .u16 r.1)))))
        rw [← hW]
        clear hW HB1 HL1 HG1 ku kf
        have qq := byt_cell (hAt.out _ HL2.out) (i := 4) (by have := HR.out.2.1; omega)
        rw [HBE.out] at qq
        have qq : W2.cell? ⟨g, o1 + 4, none⟩ = some (.int .u8 (lo (r.2.1))) := qq
        obtain ⟨u2, ku⟩ := cell_ex HB2.out (idx := 2 + i * 8 + 1) (by first | omega | (simp only [List.length_set]; omega))
        have kf := HB2.out.frozen
        go_upto_region 17 with (fail)
        obtain ⟨W3, hW⟩ : ∃ X, X = (W2.setCell ⟨bb, 2 + i * 8 + 1, none⟩ (.int .i16 r.2.1)) := ⟨_, rfl⟩
        have HB3 : Hid (Blk bb BT (((b1).set (2 + i * 8) (.int .u16 r.1)).set (2 + i * 8 + 1) (.int .i16 r.2.1)) W3) := Lib.hid (by rw [hW]; exact (HB2.out.set_ (2 + i * 8 + 1) (.int .i16 r.2.1)))
        have HL3 : Hid (Below B w W3) := Lib.hid (by rw [hW]; exact (HL2.out.setCell (p := ⟨bb, 2 + i * 8 + 1, none⟩) hbl (.int .i16 r.2.1)))
        have HG3 : Hid (wr.grownBy W3 (some bb)) := Lib.hid (by rw [hW]; exact (gtr HG2.out (gset W2 bb (2 + i * 8 + 1) (.int .i16 r.2.1))))
        rw [← hW]
        clear hW HB2 HL2 HG2 ku kf qq
        have qq := byt_cell (hAt.out _ HL3.out) (i := 5) (by have := HR.out.2.1; omega)
        rw [HBE.out] at qq
        have qq : W3.cell? ⟨g, o1 + 5, none⟩ = some (.int .u8 (lo (r.2.2.1))) := qq
        obtain ⟨u3, ku⟩ := cell_ex HB3.out (idx := 2 + i * 8 + 2) (by first | omega | (simp only [List.length_set]; omega))
        have kf := HB3.out.frozen
        go_upto_region 18 with (fail)
        obtain ⟨W4, hW⟩ : ∃ X, X = (W3.setCell ⟨bb, 2 + i * 8 + 2, none⟩ (.int .i16 r.2.2.1)) := ⟨_, rfl⟩
        have HB4 : Hid (Blk bb BT ((((b1).set (2 + i * 8) (.int .u16 r.1)).set (2 + i * 8 + 1) (.int .i16 r.2.1)).set (2 + i * 8 + 2) (.int .i16 r.2.2.1)) W4) := Lib.hid (by rw [hW]; exact (HB3.out.set_ (2 + i * 8 + 2) (.int .i16 r.2.2.1)))
        have HL4 : Hid (Below B w W4) := Lib.hid (by rw [hW]; exact (HL3.out.setCell (p := ⟨bb, 2 + i * 8 + 2, none⟩) hbl (.int .i16 r.2.2.1)))
        have HG4 : Hid (wr.grownBy W4 (some bb)) := Lib.hid (by rw [hW]; exact (gtr HG3.out (gset W3 bb (2 + i * 8 + 2) (.int .i16 r.2.2.1))))
        rw [← hW]
        clear hW HB3 HL3 HG3 ku kf qq
        obtain ⟨u4, ku⟩ := cell_ex HB4.out (idx := 2 + i * 8 + 3) (by first | omega | (simp only [List.length_set]; omega))
        have kf := HB4.out.frozen
        go_upto_region 52 with (fail)
        obtain ⟨W5, hW⟩ : ∃ X, X = (W4.setCell ⟨bb, 2 + i * 8 + 3, none⟩ (.bool false)) := ⟨_, rfl⟩
        have HB5 : Hid (Blk bb BT (((((b1).set (2 + i * 8) (.int .u16 r.1)).set (2 + i * 8 + 1) (.int .i16 r.2.1)).set (2 + i * 8 + 2) (.int .i16 r.2.2.1)).set (2 + i * 8 + 3) (.bool false)) W5) := Lib.hid (by rw [hW]; exact (HB4.out.set_ (2 + i * 8 + 3) (.bool false)))
        have HL5 : Hid (Below B w W5) := Lib.hid (by rw [hW]; exact (HL4.out.setCell (p := ⟨bb, 2 + i * 8 + 3, none⟩) hbl (.bool false)))
        have HG5 : Hid (wr.grownBy W5 (some bb)) := Lib.hid (by rw [hW]; exact (gtr HG4.out (gset W4 bb (2 + i * 8 + 3) (.bool false))))
        rw [← hW]
        clear hW HB4 HL4 HG4 ku kf
        have hst := stk_lay (ht := false) (xx := 0) (yy := 0) (c := [.int .u16 r.1, .int .i16 r.2.1, .int .i16 r.2.2.1, .bool false]) HR.out.2.2.2.2.2.2.2.2.2.1 (by rw [HR.out.2.2.2.2.2.2.2.2.1]; have := HP.out.2.2.2.2.2.2.1; omega) (by simp) (by rw [HR.out.2.2.2.2.2.2.2.2.2.2.2.1]; rfl) (by rw [HR.out.2.2.2.2.2.2.2.2.2.2.2.1]; rfl) (by rw [HR.out.2.2.2.2.2.2.2.2.2.2.2.1]; rfl) rfl (fun h => by cases h) (fun _ => by rw [HR.out.2.2.2.2.2.2.2.2.2.2.2.1]; exact HR.out.2.2.2.2.2.2.2.2.2.2.2.2.2.2.2.1 (by first | rfl | trivial))
        have hl0 : (lay b1 (2 + i * 8) [.int .u16 r.1, .int .i16 r.2.1, .int .i16 r.2.2.1, .bool false])[0]? = bd[0]? := by rw [lay_out _ _ _ _ (.inl (by omega))]; exact HR.out.2.2.2.2.2.2.2.1
        have hl1 : (lay b1 (2 + i * 8) [.int .u16 r.1, .int .i16 r.2.1, .int .i16 r.2.2.1, .bool false])[1]? = some v1 := by rw [lay_out _ _ _ _ (.inl (by omega))]; exact HR.out.2.2.2.2.2.2.2.2.2.2.2.2.2.2.2.2.2.1
        have hll : (lay b1 (2 + i * 8) [.int .u16 r.1, .int .i16 r.2.1, .int .i16 r.2.2.1, .bool false]).length = bd.length := by rw [lay_len]; exact HR.out.2.2.2.2.2.2.2.2.1
        have hbw : Blk bb BT (lay b1 (2 + i * 8) [.int .u16 r.1, .int .i16 r.2.1, .int .i16 r.2.2.1, .bool false]) W5 := HB5.out
        have hsg := (HR.out.2.2.2.2.2.2.2.2.2.2.2.2.2.2.2.2.2.2.1).grown HR.out.2.2.2.2.2.2.1 (by decide) HG5.out
        have HST := Lib.hid (And.intro hst (And.intro hl0 (And.intro hl1 (And.intro hll (And.intro hbw hsg)))))
        clear hst hl0 hl1 hll hbw hsg
        have hni : n = i + 1 := by
          have h1 := congrArg List.length HR.out.2.2.2.2.2.2.2.2.2.2.2.2.1
          rw [(HR.out.2.2.2.1 (by first | rfl | trivial)).1, List.length_drop, List.length_nil] at h1
          have := HP.out.1
          omega
        have HNI := Lib.hid hni
        clear hni
        repeat (first | ((with_reducible refine Gate.seqr2 53 ?_); refine qrest w B fb bb n (lay b1 (2 + i * 8) [.int .u16 r.1, .int .i16 r.2.1, .int .i16 r.2.2.1, .bool false]) L0 Gs Rs _ _ _ (by kernel_rfl) (by exact rfl) (by exact rfl) (by exact rfl) (by exact rfl) (by exact rfl) (by exact rfl) (by rw [HNI.out]; exact rfl) HP.out.1 hn3 hL0 hBw (by rw [HNI.out]; exact HST.out.1) ⟨HST.out.2.2.2.2.1, hbl, v1, HST.out.2.2.1, HST.out.2.2.2.2.2⟩ HL5.out HP.out.2.2.2.2.2.2.2.1 (fun j hj W' bd' L h1 h2 h3 h4 => HP.out.2.2.2.2.2.2.2.2.2 j hj W' bd' L h1 ((h2.2 0 (by decide)).trans HST.out.2.1) h3 h4)) | go_values | go_skip | go_guarded | go_step | go_upon | go_back)
    · as_aux_lemma =>
        have hbs : bs = words [10, r.1] ++ dxy true r ++ scl 1 r := HR.out.2.2.2.2.2.2.2.2.2.2.2.2.2.1
        have hbe : p1 = hi 10 :: lo 10 :: hi r.1 :: lo r.1 :: lo r.2.1 :: lo r.2.2.1 :: hi (r.2.2.2.1 * 4096) :: lo (r.2.2.2.1 * 4096) :: tl := by rw [HR.out.2.2.1, hbs]; rfl
        have hm1 : m1 = 8 + tl.length := by rw [HR.out.2.1, hbe]; simp; omega
        have HBE := Lib.hid hbe
        have HML := Lib.hid hm1
        have hw0 : hi 10 * 256 + lo 10 = 10 := by decide
        have htl := (HR.out.2.2.2.1 (by first | rfl | trivial)).2
        have htl0 : tl.length = 0 := by rw [htl]; rfl
        have hmt : 8 ≤ m1 := by omega
        have hmt2 : m1 = 8 := by omega
        clear hbs hbe hm1 htl htl0
        have fb1 : (bits BinOp.and IntKind.u16 10 1 == 0) = true := by decide
        have fb2 : (bits BinOp.and IntKind.u16 10 2 == 0) = false := by decide
        have fb200 : (bits BinOp.and IntKind.u16 10 200 != 0) = true := by decide
        have fb8 : (bits BinOp.and IntKind.u16 10 8 != 0) = true := by decide
        have fb64 : (bits BinOp.and IntKind.u16 10 64 != 0) = false := by decide
        have fb128 : (bits BinOp.and IntKind.u16 10 128 != 0) = false := by decide
        have fb32 : (bits BinOp.and IntKind.u16 10 32 == 0) = true := by decide
        have n2 : ¬ c1 = 2 := by omega
        have z2 : (2 : Int) ≤ (c1 : Int) := by omega
        have n6 : ¬ c1 = 6 := by omega
        have z6 : (6 : Int) ≤ (c1 : Int) := by omega
        have z8 : (8 : Int) ≤ (c1 : Int) := by omega
        have x2 : (2 : Int) ≤ ((c1 - 6 : Nat) : Int) := by omega
        have la : ¬ ((m1 : Int) < 4) := by omega
        have lb : ¬ ((m1 : Int) < 6) := by omega
        have lc : ¬ (((m1 - 6 : Nat) : Int) < 2) := by omega
        have wi1 : IntKind.u32.wrap ((i : Int) + 1) = (i : Int) + 1 := IntWalk.u32_in _ (by omega)
        have si1 := small_in _ (HR.out.2.2.2.2.2.2.2.2.2.2.2.2.2.2.1 (by first | rfl | trivial)).1
        have si2 := small_in _ (HR.out.2.2.2.2.2.2.2.2.2.2.2.2.2.2.1 (by first | rfl | trivial)).2
        have si3 : IntKind.i16.wrap r.2.1 = r.2.1 := IntWalk.i16_in _ (by omega)
        have si4 : IntKind.i16.wrap r.2.2.1 = r.2.2.1 := IntWalk.i16_in _ (by omega)
        have q4 := byt_cell HR.out.1 (i := 4) (by have := HR.out.2.1; omega)
        have q5 := byt_cell HR.out.1 (i := 5) (by have := HR.out.2.1; omega)
        rw [HBE.out] at q4 q5
        have q4 : wr.cell? ⟨g, o1 + 4, none⟩ = some (.int .u8 (lo r.2.1)) := q4
        have q5 : wr.cell? ⟨g, o1 + 5, none⟩ = some (.int .u8 (lo r.2.2.1)) := q5
        have l4 : 4 < m1 := by omega
        have l5 : 5 < m1 := by omega
        have HB0 : Hid (Blk bb BT b1 wr) := Lib.hid HR.out.2.2.2.2.2.2.1
        have HL0 : Hid (Below B w wr) := Lib.hid HR.out.2.2.2.2.2.2.2.2.2.2.1
        have HG0 : Hid (wr.grownBy wr (some bb)) := Lib.hid (ItE.gself wr _)
        have hB6 : 600 ≤ b1.length := by rw [HR.out.2.2.2.2.2.2.2.2.1]; exact HP.out.2.2.2.2.2.2.1
        go_wp2_with fail
        refine (HU.out _ 0 _ _ _ (10) (by first | exact HL0.out) (by omega) (by omega) (by omega) (by rw [HBE.out]; exact hw0)).mono ?_
        rintro e w' ⟨rfl, rfl⟩
        go_upto_region 12 with (fail)
        obtain ⟨W1, hW⟩ : ∃ X, X = (wr).drew := ⟨_, rfl⟩
        have HB1 : Hid (Blk bb BT (b1) W1) := Lib.hid (by rw [hW]; exact HB0.out)
        have HL1 : Hid (Below B w W1) := Lib.hid (by rw [hW]; exact (Below.drew HL0.out))
        have HG1 : Hid (wr.grownBy W1 (some bb)) := Lib.hid (by rw [hW]; exact (gdrew HG0.out))
        rw [← hW]
        clear hW HB0 HL0 HG0
        obtain ⟨u1, ku⟩ := cell_ex HB1.out (idx := 2 + i * 8) (by first | omega | (simp only [List.length_set]; omega))
        have kf := HB1.out.frozen
        go_wp2_with fail
        refine (HU.out _ 2 _ _ _ (r.1) (by first | exact HL1.out) (by omega) (by omega) (by omega) (by rw [HBE.out]; exact wg)).mono ?_
        rintro e w' ⟨rfl, rfl⟩
        go_upto_region 13 with (fail)
        obtain ⟨W2, hW⟩ : ∃ X, X = ((W1.setCell ⟨bb, 2 + i * 8, none⟩ (.int .u16 r.1))).drew := ⟨_, rfl⟩
        have HB2 : Hid (Blk bb BT ((b1).set (2 + i * 8) (.int .u16 r.1)) W2) := Lib.hid (by rw [hW]; exact (HB1.out.set_ (2 + i * 8) (.int .u16 r.1)))
        have HL2 : Hid (Below B w W2) := Lib.hid (by rw [hW]; exact (Below.drew (HL1.out.setCell (p := ⟨bb, 2 + i * 8, none⟩) hbl (.int .u16 r.1))))
        have HG2 : Hid (wr.grownBy W2 (some bb)) := Lib.hid (by rw [hW]; exact (gdrew (gtr HG1.out (gset W1 bb (2 + i * 8) (.int .u16 r.1)))))
        rw [← hW]
        clear hW HB1 HL1 HG1 ku kf
        have qq := byt_cell (hAt.out _ HL2.out) (i := 4) (by have := HR.out.2.1; omega)
        rw [HBE.out] at qq
        have qq : W2.cell? ⟨g, o1 + 4, none⟩ = some (.int .u8 (lo (r.2.1))) := qq
        obtain ⟨u2, ku⟩ := cell_ex HB2.out (idx := 2 + i * 8 + 1) (by first | omega | (simp only [List.length_set]; omega))
        have kf := HB2.out.frozen
        go_upto_region 17 with (fail)
        obtain ⟨W3, hW⟩ : ∃ X, X = (W2.setCell ⟨bb, 2 + i * 8 + 1, none⟩ (.int .i16 r.2.1)) := ⟨_, rfl⟩
        have HB3 : Hid (Blk bb BT (((b1).set (2 + i * 8) (.int .u16 r.1)).set (2 + i * 8 + 1) (.int .i16 r.2.1)) W3) := Lib.hid (by rw [hW]; exact (HB2.out.set_ (2 + i * 8 + 1) (.int .i16 r.2.1)))
        have HL3 : Hid (Below B w W3) := Lib.hid (by rw [hW]; exact (HL2.out.setCell (p := ⟨bb, 2 + i * 8 + 1, none⟩) hbl (.int .i16 r.2.1)))
        have HG3 : Hid (wr.grownBy W3 (some bb)) := Lib.hid (by rw [hW]; exact (gtr HG2.out (gset W2 bb (2 + i * 8 + 1) (.int .i16 r.2.1))))
        rw [← hW]
        clear hW HB2 HL2 HG2 ku kf qq
        have qq := byt_cell (hAt.out _ HL3.out) (i := 5) (by have := HR.out.2.1; omega)
        rw [HBE.out] at qq
        have qq : W3.cell? ⟨g, o1 + 5, none⟩ = some (.int .u8 (lo (r.2.2.1))) := qq
        obtain ⟨u3, ku⟩ := cell_ex HB3.out (idx := 2 + i * 8 + 2) (by first | omega | (simp only [List.length_set]; omega))
        have kf := HB3.out.frozen
        go_upto_region 18 with (fail)
        obtain ⟨W4, hW⟩ : ∃ X, X = (W3.setCell ⟨bb, 2 + i * 8 + 2, none⟩ (.int .i16 r.2.2.1)) := ⟨_, rfl⟩
        have HB4 : Hid (Blk bb BT ((((b1).set (2 + i * 8) (.int .u16 r.1)).set (2 + i * 8 + 1) (.int .i16 r.2.1)).set (2 + i * 8 + 2) (.int .i16 r.2.2.1)) W4) := Lib.hid (by rw [hW]; exact (HB3.out.set_ (2 + i * 8 + 2) (.int .i16 r.2.2.1)))
        have HL4 : Hid (Below B w W4) := Lib.hid (by rw [hW]; exact (HL3.out.setCell (p := ⟨bb, 2 + i * 8 + 2, none⟩) hbl (.int .i16 r.2.2.1)))
        have HG4 : Hid (wr.grownBy W4 (some bb)) := Lib.hid (by rw [hW]; exact (gtr HG3.out (gset W3 bb (2 + i * 8 + 2) (.int .i16 r.2.2.1))))
        rw [← hW]
        clear hW HB3 HL3 HG3 ku kf qq
        obtain ⟨u4, ku⟩ := cell_ex HB4.out (idx := 2 + i * 8 + 3) (by first | omega | (simp only [List.length_set]; omega))
        have kf := HB4.out.frozen
        go_upto_region 31 with (fail)
        obtain ⟨W5, hW⟩ : ∃ X, X = (W4.setCell ⟨bb, 2 + i * 8 + 3, none⟩ (.bool true)) := ⟨_, rfl⟩
        have HB5 : Hid (Blk bb BT (((((b1).set (2 + i * 8) (.int .u16 r.1)).set (2 + i * 8 + 1) (.int .i16 r.2.1)).set (2 + i * 8 + 2) (.int .i16 r.2.2.1)).set (2 + i * 8 + 3) (.bool true)) W5) := Lib.hid (by rw [hW]; exact (HB4.out.set_ (2 + i * 8 + 3) (.bool true)))
        have HL5 : Hid (Below B w W5) := Lib.hid (by rw [hW]; exact (HL4.out.setCell (p := ⟨bb, 2 + i * 8 + 3, none⟩) hbl (.bool true)))
        have HG5 : Hid (wr.grownBy W5 (some bb)) := Lib.hid (by rw [hW]; exact (gtr HG4.out (gset W4 bb (2 + i * 8 + 3) (.bool true))))
        rw [← hW]
        clear hW HB4 HL4 HG4 ku kf
        obtain ⟨u5, ku⟩ := cell_ex HB5.out (idx := 2 + i * 8 + 4) (by first | omega | (simp only [List.length_set]; omega))
        have kf := HB5.out.frozen
        go_wp2_with fail
        refine (HU.out _ 6 _ _ _ (hi (r.2.2.2.1 * 4096) * 256 + lo (r.2.2.2.1 * 4096)) (by first | exact HL5.out) (by omega) (by omega) (by omega) (by rw [HBE.out]; rfl)).mono ?_
        rintro e w' ⟨rfl, rfl⟩
        go_upto_region 32 with (fail)
        obtain ⟨W6, hW⟩ : ∃ X, X = ((W5.setCell ⟨bb, 2 + i * 8 + 4, none⟩ (.int .i16 (r.2.2.2.1 * 4096)))).drew := ⟨_, rfl⟩
        have HB6 : Hid (Blk bb BT ((((((b1).set (2 + i * 8) (.int .u16 r.1)).set (2 + i * 8 + 1) (.int .i16 r.2.1)).set (2 + i * 8 + 2) (.int .i16 r.2.2.1)).set (2 + i * 8 + 3) (.bool true)).set (2 + i * 8 + 4) (.int .i16 (r.2.2.2.1 * 4096))) W6) := Lib.hid (by rw [hW]; exact (HB5.out.set_ (2 + i * 8 + 4) (.int .i16 (r.2.2.2.1 * 4096))))
        have HL6 : Hid (Below B w W6) := Lib.hid (by rw [hW]; exact (Below.drew (HL5.out.setCell (p := ⟨bb, 2 + i * 8 + 4, none⟩) hbl (.int .i16 (r.2.2.2.1 * 4096)))))
        have HG6 : Hid (wr.grownBy W6 (some bb)) := Lib.hid (by rw [hW]; exact (gdrew (gtr HG5.out (gset W5 bb (2 + i * 8 + 4) (.int .i16 (r.2.2.2.1 * 4096))))))
        rw [← hW]
        clear hW HB5 HL5 HG5 ku kf
        obtain ⟨u6, ku⟩ := cell_ex HB6.out (idx := 2 + i * 8 + 5) (by first | omega | (simp only [List.length_set]; omega))
        have kf := HB6.out.frozen
        go_upto_region 33 with (fail)
        obtain ⟨W7, hW⟩ : ∃ X, X = (W6.setCell ⟨bb, 2 + i * 8 + 5, none⟩ (.int .i16 0)) := ⟨_, rfl⟩
        have HB7 : Hid (Blk bb BT (((((((b1).set (2 + i * 8) (.int .u16 r.1)).set (2 + i * 8 + 1) (.int .i16 r.2.1)).set (2 + i * 8 + 2) (.int .i16 r.2.2.1)).set (2 + i * 8 + 3) (.bool true)).set (2 + i * 8 + 4) (.int .i16 (r.2.2.2.1 * 4096))).set (2 + i * 8 + 5) (.int .i16 0)) W7) := Lib.hid (by rw [hW]; exact (HB6.out.set_ (2 + i * 8 + 5) (.int .i16 0)))
        have HL7 : Hid (Below B w W7) := Lib.hid (by rw [hW]; exact (HL6.out.setCell (p := ⟨bb, 2 + i * 8 + 5, none⟩) hbl (.int .i16 0)))
        have HG7 : Hid (wr.grownBy W7 (some bb)) := Lib.hid (by rw [hW]; exact (gtr HG6.out (gset W6 bb (2 + i * 8 + 5) (.int .i16 0))))
        rw [← hW]
        clear hW HB6 HL6 HG6 ku kf
        obtain ⟨u7, ku⟩ := cell_ex HB7.out (idx := 2 + i * 8 + 6) (by first | omega | (simp only [List.length_set]; omega))
        have kf := HB7.out.frozen
        go_upto_region 34 with (fail)
        obtain ⟨W8, hW⟩ : ∃ X, X = (W7.setCell ⟨bb, 2 + i * 8 + 6, none⟩ (.int .i16 0)) := ⟨_, rfl⟩
        have HB8 : Hid (Blk bb BT ((((((((b1).set (2 + i * 8) (.int .u16 r.1)).set (2 + i * 8 + 1) (.int .i16 r.2.1)).set (2 + i * 8 + 2) (.int .i16 r.2.2.1)).set (2 + i * 8 + 3) (.bool true)).set (2 + i * 8 + 4) (.int .i16 (r.2.2.2.1 * 4096))).set (2 + i * 8 + 5) (.int .i16 0)).set (2 + i * 8 + 6) (.int .i16 0)) W8) := Lib.hid (by rw [hW]; exact (HB7.out.set_ (2 + i * 8 + 6) (.int .i16 0)))
        have HL8 : Hid (Below B w W8) := Lib.hid (by rw [hW]; exact (HL7.out.setCell (p := ⟨bb, 2 + i * 8 + 6, none⟩) hbl (.int .i16 0)))
        have HG8 : Hid (wr.grownBy W8 (some bb)) := Lib.hid (by rw [hW]; exact (gtr HG7.out (gset W7 bb (2 + i * 8 + 6) (.int .i16 0))))
        rw [← hW]
        clear hW HB7 HL7 HG7 ku kf
        have k4 : W8.cell? ⟨bb, 2 + i * 8 + 4, none⟩ = some (.int .i16 (r.2.2.2.1 * 4096)) := HB8.out.cell (by rw [List.getElem?_set_ne (by omega), List.getElem?_set_ne (by omega), List.getElem?_set_self (by simp only [List.length_set]; omega)])
        obtain ⟨u8, ku⟩ := cell_ex HB8.out (idx := 2 + i * 8 + 7) (by first | omega | (simp only [List.length_set]; omega))
        have kf := HB8.out.frozen
        go_upto_region 35 with (fail)
        obtain ⟨W9, hW⟩ : ∃ X, X = (W8.setCell ⟨bb, 2 + i * 8 + 7, none⟩ (.int .i16 (r.2.2.2.1 * 4096))) := ⟨_, rfl⟩
        have HB9 : Hid (Blk bb BT (((((((((b1).set (2 + i * 8) (.int .u16 r.1)).set (2 + i * 8 + 1) (.int .i16 r.2.1)).set (2 + i * 8 + 2) (.int .i16 r.2.2.1)).set (2 + i * 8 + 3) (.bool true)).set (2 + i * 8 + 4) (.int .i16 (r.2.2.2.1 * 4096))).set (2 + i * 8 + 5) (.int .i16 0)).set (2 + i * 8 + 6) (.int .i16 0)).set (2 + i * 8 + 7) (.int .i16 (r.2.2.2.1 * 4096))) W9) := Lib.hid (by rw [hW]; exact (HB8.out.set_ (2 + i * 8 + 7) (.int .i16 (r.2.2.2.1 * 4096))))
        have HL9 : Hid (Below B w W9) := Lib.hid (by rw [hW]; exact (HL8.out.setCell (p := ⟨bb, 2 + i * 8 + 7, none⟩) hbl (.int .i16 (r.2.2.2.1 * 4096))))
        have HG9 : Hid (wr.grownBy W9 (some bb)) := Lib.hid (by rw [hW]; exact (gtr HG8.out (gset W8 bb (2 + i * 8 + 7) (.int .i16 (r.2.2.2.1 * 4096)))))
        rw [← hW]
        clear hW HB8 HL8 HG8 ku kf k4
        have hst := stk_lay (ht := true) (xx := 0) (yy := 0) (c := [.int .u16 r.1, .int .i16 r.2.1, .int .i16 r.2.2.1, .bool true, .int .i16 (r.2.2.2.1 * 4096), .int .i16 0, .int .i16 0, .int .i16 (r.2.2.2.1 * 4096)]) HR.out.2.2.2.2.2.2.2.2.2.1 (by rw [HR.out.2.2.2.2.2.2.2.2.1]; have := HP.out.2.2.2.2.2.2.1; omega) (by simp) (by rw [HR.out.2.2.2.2.2.2.2.2.2.2.2.1]; rfl) (by rw [HR.out.2.2.2.2.2.2.2.2.2.2.2.1]; rfl) (by rw [HR.out.2.2.2.2.2.2.2.2.2.2.2.1]; rfl) rfl (fun _ => ⟨rfl, by rw [HR.out.2.2.2.2.2.2.2.2.2.2.2.1]; rfl, rfl, rfl, by rw [HR.out.2.2.2.2.2.2.2.2.2.2.2.1, ← HR.out.2.2.2.2.2.2.2.2.2.2.2.2.2.2.2.2.1 (by first | rfl | trivial)]; rfl⟩) (fun h => by cases h)
        have hl0 : (lay b1 (2 + i * 8) [.int .u16 r.1, .int .i16 r.2.1, .int .i16 r.2.2.1, .bool true, .int .i16 (r.2.2.2.1 * 4096), .int .i16 0, .int .i16 0, .int .i16 (r.2.2.2.1 * 4096)])[0]? = bd[0]? := by rw [lay_out _ _ _ _ (.inl (by omega))]; exact HR.out.2.2.2.2.2.2.2.1
        have hl1 : (lay b1 (2 + i * 8) [.int .u16 r.1, .int .i16 r.2.1, .int .i16 r.2.2.1, .bool true, .int .i16 (r.2.2.2.1 * 4096), .int .i16 0, .int .i16 0, .int .i16 (r.2.2.2.1 * 4096)])[1]? = some v1 := by rw [lay_out _ _ _ _ (.inl (by omega))]; exact HR.out.2.2.2.2.2.2.2.2.2.2.2.2.2.2.2.2.2.1
        have hll : (lay b1 (2 + i * 8) [.int .u16 r.1, .int .i16 r.2.1, .int .i16 r.2.2.1, .bool true, .int .i16 (r.2.2.2.1 * 4096), .int .i16 0, .int .i16 0, .int .i16 (r.2.2.2.1 * 4096)]).length = bd.length := by rw [lay_len]; exact HR.out.2.2.2.2.2.2.2.2.1
        have hbw : Blk bb BT (lay b1 (2 + i * 8) [.int .u16 r.1, .int .i16 r.2.1, .int .i16 r.2.2.1, .bool true, .int .i16 (r.2.2.2.1 * 4096), .int .i16 0, .int .i16 0, .int .i16 (r.2.2.2.1 * 4096)]) W9 := HB9.out
        have hsg := (HR.out.2.2.2.2.2.2.2.2.2.2.2.2.2.2.2.2.2.2.1).grown HR.out.2.2.2.2.2.2.1 (by decide) HG9.out
        have HST := Lib.hid (And.intro hst (And.intro hl0 (And.intro hl1 (And.intro hll (And.intro hbw hsg)))))
        clear hst hl0 hl1 hll hbw hsg
        have hni : n = i + 1 := by
          have h1 := congrArg List.length HR.out.2.2.2.2.2.2.2.2.2.2.2.2.1
          rw [(HR.out.2.2.2.1 (by first | rfl | trivial)).1, List.length_drop, List.length_nil] at h1
          have := HP.out.1
          omega
        have HNI := Lib.hid hni
        clear hni
        repeat (first | ((with_reducible refine Gate.seqr2 53 ?_); refine qrest w B fb bb n (lay b1 (2 + i * 8) [.int .u16 r.1, .int .i16 r.2.1, .int .i16 r.2.2.1, .bool true, .int .i16 (r.2.2.2.1 * 4096), .int .i16 0, .int .i16 0, .int .i16 (r.2.2.2.1 * 4096)]) L0 Gs Rs _ _ _ (by kernel_rfl) (by exact rfl) (by exact rfl) (by exact rfl) (by exact rfl) (by exact rfl) (by exact rfl) (by rw [HNI.out]; exact rfl) HP.out.1 hn3 hL0 hBw (by rw [HNI.out]; exact HST.out.1) ⟨HST.out.2.2.2.2.1, hbl, v1, HST.out.2.2.1, HST.out.2.2.2.2.2⟩ HL9.out HP.out.2.2.2.2.2.2.2.1 (fun j hj W' bd' L h1 h2 h3 h4 => HP.out.2.2.2.2.2.2.2.2.2 j hj W' bd' L h1 ((h2.2 0 (by decide)).trans HST.out.2.1) h3 h4)) | go_values | go_skip | go_guarded | go_step | go_upon | go_back)
    · as_aux_lemma =>
        have hbs : bs = words [66, r.1] ++ dxy true r ++ scl 2 r := HR.out.2.2.2.2.2.2.2.2.2.2.2.2.2.1
        have hbe : p1 = hi 66 :: lo 66 :: hi r.1 :: lo r.1 :: lo r.2.1 :: lo r.2.2.1 :: hi (r.2.2.2.1 * 4096) :: lo (r.2.2.2.1 * 4096) :: hi (r.2.2.2.2 * 4096) :: lo (r.2.2.2.2 * 4096) :: tl := by rw [HR.out.2.2.1, hbs]; rfl
        have hm1 : m1 = 10 + tl.length := by rw [HR.out.2.1, hbe]; simp; omega
        have HBE := Lib.hid hbe
        have HML := Lib.hid hm1
        have hw0 : hi 66 * 256 + lo 66 = 66 := by decide
        have htl := (HR.out.2.2.2.1 (by first | rfl | trivial)).2
        have htl0 : tl.length = 0 := by rw [htl]; rfl
        have hmt : 10 ≤ m1 := by omega
        have hmt2 : m1 = 10 := by omega
        clear hbs hbe hm1 htl htl0
        have fb1 : (bits BinOp.and IntKind.u16 66 1 == 0) = true := by decide
        have fb2 : (bits BinOp.and IntKind.u16 66 2 == 0) = false := by decide
        have fb200 : (bits BinOp.and IntKind.u16 66 200 != 0) = true := by decide
        have fb8 : (bits BinOp.and IntKind.u16 66 8 != 0) = false := by decide
        have fb64 : (bits BinOp.and IntKind.u16 66 64 != 0) = true := by decide
        have fb128 : (bits BinOp.and IntKind.u16 66 128 != 0) = false := by decide
        have fb32 : (bits BinOp.and IntKind.u16 66 32 == 0) = true := by decide
        have n2 : ¬ c1 = 2 := by omega
        have z2 : (2 : Int) ≤ (c1 : Int) := by omega
        have n6 : ¬ c1 = 6 := by omega
        have z6 : (6 : Int) ≤ (c1 : Int) := by omega
        have n8 : ¬ c1 = 8 := by omega
        have z8 : (8 : Int) ≤ (c1 : Int) := by omega
        have z10 : (10 : Int) ≤ (c1 : Int) := by omega
        have y2 : ¬ c1 - 6 = 2 := by omega
        have x2 : (2 : Int) ≤ ((c1 - 6 : Nat) : Int) := by omega
        have x4 : (4 : Int) ≤ ((c1 - 6 : Nat) : Int) := by omega
        have la : ¬ ((m1 : Int) < 4) := by omega
        have lb : ¬ ((m1 : Int) < 6) := by omega
        have lc : ¬ (((m1 - 6 : Nat) : Int) < 4) := by omega
        have wi1 : IntKind.u32.wrap ((i : Int) + 1) = (i : Int) + 1 := IntWalk.u32_in _ (by omega)
        have si1 := small_in _ (HR.out.2.2.2.2.2.2.2.2.2.2.2.2.2.2.1 (by first | rfl | trivial)).1
        have si2 := small_in _ (HR.out.2.2.2.2.2.2.2.2.2.2.2.2.2.2.1 (by first | rfl | trivial)).2
        have si3 : IntKind.i16.wrap r.2.1 = r.2.1 := IntWalk.i16_in _ (by omega)
        have si4 : IntKind.i16.wrap r.2.2.1 = r.2.2.1 := IntWalk.i16_in _ (by omega)
        have q4 := byt_cell HR.out.1 (i := 4) (by have := HR.out.2.1; omega)
        have q5 := byt_cell HR.out.1 (i := 5) (by have := HR.out.2.1; omega)
        rw [HBE.out] at q4 q5
        have q4 : wr.cell? ⟨g, o1 + 4, none⟩ = some (.int .u8 (lo r.2.1)) := q4
        have q5 : wr.cell? ⟨g, o1 + 5, none⟩ = some (.int .u8 (lo r.2.2.1)) := q5
        have l4 : 4 < m1 := by omega
        have l5 : 5 < m1 := by omega
        have HB0 : Hid (Blk bb BT b1 wr) := Lib.hid HR.out.2.2.2.2.2.2.1
        have HL0 : Hid (Below B w wr) := Lib.hid HR.out.2.2.2.2.2.2.2.2.2.2.1
        have HG0 : Hid (wr.grownBy wr (some bb)) := Lib.hid (ItE.gself wr _)
        have hB6 : 600 ≤ b1.length := by rw [HR.out.2.2.2.2.2.2.2.2.1]; exact HP.out.2.2.2.2.2.2.1
        go_wp2_with fail
        refine (HU.out _ 0 _ _ _ (66) (by first | exact HL0.out) (by omega) (by omega) (by omega) (by rw [HBE.out]; exact hw0)).mono ?_
        rintro e w' ⟨rfl, rfl⟩
        go_upto_region 12 with (fail)
        obtain ⟨W1, hW⟩ : ∃ X, X = (wr).drew := ⟨_, rfl⟩
        have HB1 : Hid (Blk bb BT (b1) W1) := Lib.hid (by rw [hW]; exact HB0.out)
        have HL1 : Hid (Below B w W1) := Lib.hid (by rw [hW]; exact (Below.drew HL0.out))
        have HG1 : Hid (wr.grownBy W1 (some bb)) := Lib.hid (by rw [hW]; exact (gdrew HG0.out))
        rw [← hW]
        clear hW HB0 HL0 HG0
        obtain ⟨u1, ku⟩ := cell_ex HB1.out (idx := 2 + i * 8) (by first | omega | (simp only [List.length_set]; omega))
        have kf := HB1.out.frozen
        go_wp2_with fail
        refine (HU.out _ 2 _ _ _ (r.1) (by first | exact HL1.out) (by omega) (by omega) (by omega) (by rw [HBE.out]; exact wg)).mono ?_
        rintro e w' ⟨rfl, rfl⟩
        go_upto_region 13 with (fail)
        obtain ⟨W2, hW⟩ : ∃ X, X = ((W1.setCell ⟨bb, 2 + i * 8, none⟩ (.int .u16 r.1))).drew := ⟨_, rfl⟩
        have HB2 : Hid (Blk bb BT ((b1).set (2 + i * 8) (.int .u16 r.1)) W2) := Lib.hid (by rw [hW]; exact (HB1.out.set_ (2 + i * 8) (.int .u16 r.1)))
        have HL2 : Hid (Below B w W2) := Lib.hid (by rw [hW]; exact (Below.drew (HL1.out.setCell (p := ⟨bb, 2 + i * 8, none⟩) hbl (.int .u16 r.1))))
        have HG2 : Hid (wr.grownBy W2 (some bb)) := Lib.hid (by rw [hW]; exact (gdrew (gtr HG1.out (gset W1 bb (2 + i * 8) (.int .u16 r.1)))))
        rw [← hW]
        clear hW HB1 HL1 HG1 ku kf
        have qq := byt_cell (hAt.out _ HL2.out) (i := 4) (by have := HR.out.2.1; omega)
        rw [HBE.out] at qq
        have qq : W2.cell? ⟨g, o1 + 4, none⟩ = some (.int .u8 (lo (r.2.1))) := qq
        obtain ⟨u2, ku⟩ := cell_ex HB2.out (idx := 2 + i * 8 + 1) (by first | omega | (simp only [List.length_set]; omega))
        have kf := HB2.out.frozen
        go_upto_region 17 with (fail)
        obtain ⟨W3, hW⟩ : ∃ X, X = (W2.setCell ⟨bb, 2 + i * 8 + 1, none⟩ (.int .i16 r.2.1)) := ⟨_, rfl⟩
        have HB3 : Hid (Blk bb BT (((b1).set (2 + i * 8) (.int .u16 r.1)).set (2 + i * 8 + 1) (.int .i16 r.2.1)) W3) := Lib.hid (by rw [hW]; exact (HB2.out.set_ (2 + i * 8 + 1) (.int .i16 r.2.1)))
        have HL3 : Hid (Below B w W3) := Lib.hid (by rw [hW]; exact (HL2.out.setCell (p := ⟨bb, 2 + i * 8 + 1, none⟩) hbl (.int .i16 r.2.1)))
        have HG3 : Hid (wr.grownBy W3 (some bb)) := Lib.hid (by rw [hW]; exact (gtr HG2.out (gset W2 bb (2 + i * 8 + 1) (.int .i16 r.2.1))))
        rw [← hW]
        clear hW HB2 HL2 HG2 ku kf qq
        have qq := byt_cell (hAt.out _ HL3.out) (i := 5) (by have := HR.out.2.1; omega)
        rw [HBE.out] at qq
        have qq : W3.cell? ⟨g, o1 + 5, none⟩ = some (.int .u8 (lo (r.2.2.1))) := qq
        obtain ⟨u3, ku⟩ := cell_ex HB3.out (idx := 2 + i * 8 + 2) (by first | omega | (simp only [List.length_set]; omega))
        have kf := HB3.out.frozen
        go_upto_region 18 with (fail)
        obtain ⟨W4, hW⟩ : ∃ X, X = (W3.setCell ⟨bb, 2 + i * 8 + 2, none⟩ (.int .i16 r.2.2.1)) := ⟨_, rfl⟩
        have HB4 : Hid (Blk bb BT ((((b1).set (2 + i * 8) (.int .u16 r.1)).set (2 + i * 8 + 1) (.int .i16 r.2.1)).set (2 + i * 8 + 2) (.int .i16 r.2.2.1)) W4) := Lib.hid (by rw [hW]; exact (HB3.out.set_ (2 + i * 8 + 2) (.int .i16 r.2.2.1)))
        have HL4 : Hid (Below B w W4) := Lib.hid (by rw [hW]; exact (HL3.out.setCell (p := ⟨bb, 2 + i * 8 + 2, none⟩) hbl (.int .i16 r.2.2.1)))
        have HG4 : Hid (wr.grownBy W4 (some bb)) := Lib.hid (by rw [hW]; exact (gtr HG3.out (gset W3 bb (2 + i * 8 + 2) (.int .i16 r.2.2.1))))
        rw [← hW]
        clear hW HB3 HL3 HG3 ku kf qq
        obtain ⟨u4, ku⟩ := cell_ex HB4.out (idx := 2 + i * 8 + 3) (by first | omega | (simp only [List.length_set]; omega))
        have kf := HB4.out.frozen
        go_upto_region 39 with (fail)
        obtain ⟨W5, hW⟩ : ∃ X, X = (W4.setCell ⟨bb, 2 + i * 8 + 3, none⟩ (.bool true)) := ⟨_, rfl⟩
        have HB5 : Hid (Blk bb BT (((((b1).set (2 + i * 8) (.int .u16 r.1)).set (2 + i * 8 + 1) (.int .i16 r.2.1)).set (2 + i * 8 + 2) (.int .i16 r.2.2.1)).set (2 + i * 8 + 3) (.bool true)) W5) := Lib.hid (by rw [hW]; exact (HB4.out.set_ (2 + i * 8 + 3) (.bool true)))
        have HL5 : Hid (Below B w W5) := Lib.hid (by rw [hW]; exact (HL4.out.setCell (p := ⟨bb, 2 + i * 8 + 3, none⟩) hbl (.bool true)))
        have HG5 : Hid (wr.grownBy W5 (some bb)) := Lib.hid (by rw [hW]; exact (gtr HG4.out (gset W4 bb (2 + i * 8 + 3) (.bool true))))
        rw [← hW]
        clear hW HB4 HL4 HG4 ku kf
        obtain ⟨u5, ku⟩ := cell_ex HB5.out (idx := 2 + i * 8 + 4) (by first | omega | (simp only [List.length_set]; omega))
        have kf := HB5.out.frozen
        go_wp2_with fail
        refine (HU.out _ 6 _ _ _ (hi (r.2.2.2.1 * 4096) * 256 + lo (r.2.2.2.1 * 4096)) (by first | exact HL5.out) (by omega) (by omega) (by omega) (by rw [HBE.out]; rfl)).mono ?_
        rintro e w' ⟨rfl, rfl⟩
        go_upto_region 40 with (fail)
        obtain ⟨W6, hW⟩ : ∃ X, X = ((W5.setCell ⟨bb, 2 + i * 8 + 4, none⟩ (.int .i16 (r.2.2.2.1 * 4096)))).drew := ⟨_, rfl⟩
        have HB6 : Hid (Blk bb BT ((((((b1).set (2 + i * 8) (.int .u16 r.1)).set (2 + i * 8 + 1) (.int .i16 r.2.1)).set (2 + i * 8 + 2) (.int .i16 r.2.2.1)).set (2 + i * 8 + 3) (.bool true)).set (2 + i * 8 + 4) (.int .i16 (r.2.2.2.1 * 4096))) W6) := Lib.hid (by rw [hW]; exact (HB5.out.set_ (2 + i * 8 + 4) (.int .i16 (r.2.2.2.1 * 4096))))
        have HL6 : Hid (Below B w W6) := Lib.hid (by rw [hW]; exact (Below.drew (HL5.out.setCell (p := ⟨bb, 2 + i * 8 + 4, none⟩) hbl (.int .i16 (r.2.2.2.1 * 4096)))))
        have HG6 : Hid (wr.grownBy W6 (some bb)) := Lib.hid (by rw [hW]; exact (gdrew (gtr HG5.out (gset W5 bb (2 + i * 8 + 4) (.int .i16 (r.2.2.2.1 * 4096))))))
        rw [← hW]
        clear hW HB5 HL5 HG5 ku kf
        obtain ⟨u6, ku⟩ := cell_ex HB6.out (idx := 2 + i * 8 + 5) (by first | omega | (simp only [List.length_set]; omega))
        have kf := HB6.out.frozen
        go_upto_region 41 with (fail)
        obtain ⟨W7, hW⟩ : ∃ X, X = (W6.setCell ⟨bb, 2 + i * 8 + 5, none⟩ (.int .i16 0)) := ⟨_, rfl⟩
        have HB7 : Hid (Blk bb BT (((((((b1).set (2 + i * 8) (.int .u16 r.1)).set (2 + i * 8 + 1) (.int .i16 r.2.1)).set (2 + i * 8 + 2) (.int .i16 r.2.2.1)).set (2 + i * 8 + 3) (.bool true)).set (2 + i * 8 + 4) (.int .i16 (r.2.2.2.1 * 4096))).set (2 + i * 8 + 5) (.int .i16 0)) W7) := Lib.hid (by rw [hW]; exact (HB6.out.set_ (2 + i * 8 + 5) (.int .i16 0)))
        have HL7 : Hid (Below B w W7) := Lib.hid (by rw [hW]; exact (HL6.out.setCell (p := ⟨bb, 2 + i * 8 + 5, none⟩) hbl (.int .i16 0)))
        have HG7 : Hid (wr.grownBy W7 (some bb)) := Lib.hid (by rw [hW]; exact (gtr HG6.out (gset W6 bb (2 + i * 8 + 5) (.int .i16 0))))
        rw [← hW]
        clear hW HB6 HL6 HG6 ku kf
        obtain ⟨u7, ku⟩ := cell_ex HB7.out (idx := 2 + i * 8 + 6) (by first | omega | (simp only [List.length_set]; omega))
        have kf := HB7.out.frozen
        go_upto_region 42 with (fail)
        obtain ⟨W8, hW⟩ : ∃ X, X = (W7.setCell ⟨bb, 2 + i * 8 + 6, none⟩ (.int .i16 0)) := ⟨_, rfl⟩
        have HB8 : Hid (Blk bb BT ((((((((b1).set (2 + i * 8) (.int .u16 r.1)).set (2 + i * 8 + 1) (.int .i16 r.2.1)).set (2 + i * 8 + 2) (.int .i16 r.2.2.1)).set (2 + i * 8 + 3) (.bool true)).set (2 + i * 8 + 4) (.int .i16 (r.2.2.2.1 * 4096))).set (2 + i * 8 + 5) (.int .i16 0)).set (2 + i * 8 + 6) (.int .i16 0)) W8) := Lib.hid (by rw [hW]; exact (HB7.out.set_ (2 + i * 8 + 6) (.int .i16 0)))
        have HL8 : Hid (Below B w W8) := Lib.hid (by rw [hW]; exact (HL7.out.setCell (p := ⟨bb, 2 + i * 8 + 6, none⟩) hbl (.int .i16 0)))
        have HG8 : Hid (wr.grownBy W8 (some bb)) := Lib.hid (by rw [hW]; exact (gtr HG7.out (gset W7 bb (2 + i * 8 + 6) (.int .i16 0))))
        rw [← hW]
        clear hW HB7 HL7 HG7 ku kf
        obtain ⟨u8, ku⟩ := cell_ex HB8.out (idx := 2 + i * 8 + 7) (by first | omega | (simp only [List.length_set]; omega))
        have kf := HB8.out.frozen
        go_wp2_with fail
        refine (HU.out _ 8 _ _ _ (hi (r.2.2.2.2 * 4096) * 256 + lo (r.2.2.2.2 * 4096)) (by first | exact HL8.out) (by omega) (by omega) (by omega) (by rw [HBE.out]; rfl)).mono ?_
        rintro e w' ⟨rfl, rfl⟩
        go_upto_region 43 with (fail)
        obtain ⟨W9, hW⟩ : ∃ X, X = ((W8.setCell ⟨bb, 2 + i * 8 + 7, none⟩ (.int .i16 (r.2.2.2.2 * 4096)))).drew := ⟨_, rfl⟩
        have HB9 : Hid (Blk bb BT (((((((((b1).set (2 + i * 8) (.int .u16 r.1)).set (2 + i * 8 + 1) (.int .i16 r.2.1)).set (2 + i * 8 + 2) (.int .i16 r.2.2.1)).set (2 + i * 8 + 3) (.bool true)).set (2 + i * 8 + 4) (.int .i16 (r.2.2.2.1 * 4096))).set (2 + i * 8 + 5) (.int .i16 0)).set (2 + i * 8 + 6) (.int .i16 0)).set (2 + i * 8 + 7) (.int .i16 (r.2.2.2.2 * 4096))) W9) := Lib.hid (by rw [hW]; exact (HB8.out.set_ (2 + i * 8 + 7) (.int .i16 (r.2.2.2.2 * 4096))))
        have HL9 : Hid (Below B w W9) := Lib.hid (by rw [hW]; exact (Below.drew (HL8.out.setCell (p := ⟨bb, 2 + i * 8 + 7, none⟩) hbl (.int .i16 (r.2.2.2.2 * 4096)))))
        have HG9 : Hid (wr.grownBy W9 (some bb)) := Lib.hid (by rw [hW]; exact (gdrew (gtr HG8.out (gset W8 bb (2 + i * 8 + 7) (.int .i16 (r.2.2.2.2 * 4096))))))
        rw [← hW]
        clear hW HB8 HL8 HG8 ku kf
        have hst := stk_lay (ht := true) (xx := 0) (yy := 0) (c := [.int .u16 r.1, .int .i16 r.2.1, .int .i16 r.2.2.1, .bool true, .int .i16 (r.2.2.2.1 * 4096), .int .i16 0, .int .i16 0, .int .i16 (r.2.2.2.2 * 4096)]) HR.out.2.2.2.2.2.2.2.2.2.1 (by rw [HR.out.2.2.2.2.2.2.2.2.1]; have := HP.out.2.2.2.2.2.2.1; omega) (by simp) (by rw [HR.out.2.2.2.2.2.2.2.2.2.2.2.1]; rfl) (by rw [HR.out.2.2.2.2.2.2.2.2.2.2.2.1]; rfl) (by rw [HR.out.2.2.2.2.2.2.2.2.2.2.2.1]; rfl) rfl (fun _ => ⟨rfl, by rw [HR.out.2.2.2.2.2.2.2.2.2.2.2.1]; rfl, rfl, rfl, by rw [HR.out.2.2.2.2.2.2.2.2.2.2.2.1]; rfl⟩) (fun h => by cases h)
        have hl0 : (lay b1 (2 + i * 8) [.int .u16 r.1, .int .i16 r.2.1, .int .i16 r.2.2.1, .bool true, .int .i16 (r.2.2.2.1 * 4096), .int .i16 0, .int .i16 0, .int .i16 (r.2.2.2.2 * 4096)])[0]? = bd[0]? := by rw [lay_out _ _ _ _ (.inl (by omega))]; exact HR.out.2.2.2.2.2.2.2.1
        have hl1 : (lay b1 (2 + i * 8) [.int .u16 r.1, .int .i16 r.2.1, .int .i16 r.2.2.1, .bool true, .int .i16 (r.2.2.2.1 * 4096), .int .i16 0, .int .i16 0, .int .i16 (r.2.2.2.2 * 4096)])[1]? = some v1 := by rw [lay_out _ _ _ _ (.inl (by omega))]; exact HR.out.2.2.2.2.2.2.2.2.2.2.2.2.2.2.2.2.2.1
        have hll : (lay b1 (2 + i * 8) [.int .u16 r.1, .int .i16 r.2.1, .int .i16 r.2.2.1, .bool true, .int .i16 (r.2.2.2.1 * 4096), .int .i16 0, .int .i16 0, .int .i16 (r.2.2.2.2 * 4096)]).length = bd.length := by rw [lay_len]; exact HR.out.2.2.2.2.2.2.2.2.1
        have hbw : Blk bb BT (lay b1 (2 + i * 8) [.int .u16 r.1, .int .i16 r.2.1, .int .i16 r.2.2.1, .bool true, .int .i16 (r.2.2.2.1 * 4096), .int .i16 0, .int .i16 0, .int .i16 (r.2.2.2.2 * 4096)]) W9 := HB9.out
        have hsg := (HR.out.2.2.2.2.2.2.2.2.2.2.2.2.2.2.2.2.2.2.1).grown HR.out.2.2.2.2.2.2.1 (by decide) HG9.out
        have HST := Lib.hid (And.intro hst (And.intro hl0 (And.intro hl1 (And.intro hll (And.intro hbw hsg)))))
        clear hst hl0 hl1 hll hbw hsg
        have hni : n = i + 1 := by
          have h1 := congrArg List.length HR.out.2.2.2.2.2.2.2.2.2.2.2.2.1
          rw [(HR.out.2.2.2.1 (by first | rfl | trivial)).1, List.length_drop, List.length_nil] at h1
          have := HP.out.1
          omega
        have HNI := Lib.hid hni
        clear hni
        repeat (first | ((with_reducible refine Gate.seqr2 53 ?_); refine qrest w B fb bb n (lay b1 (2 + i * 8) [.int .u16 r.1, .int .i16 r.2.1, .int .i16 r.2.2.1, .bool true, .int .i16 (r.2.2.2.1 * 4096), .int .i16 0, .int .i16 0, .int .i16 (r.2.2.2.2 * 4096)]) L0 Gs Rs _ _ _ (by kernel_rfl) (by exact rfl) (by exact rfl) (by exact rfl) (by exact rfl) (by exact rfl) (by exact rfl) (by rw [HNI.out]; exact rfl) HP.out.1 hn3 hL0 hBw (by rw [HNI.out]; exact HST.out.1) ⟨HST.out.2.2.2.2.1, hbl, v1, HST.out.2.2.1, HST.out.2.2.2.2.2⟩ HL9.out HP.out.2.2.2.2.2.2.2.1 (fun j hj W' bd' L h1 h2 h3 h4 => HP.out.2.2.2.2.2.2.2.2.2 j hj W' bd' L h1 ((h2.2 0 (by decide)).trans HST.out.2.1) h3 h4)) | go_values | go_skip | go_guarded | go_step | go_upon | go_back)
    · as_aux_lemma =>
        have hbs : bs = words [130, r.1] ++ dxy true r ++ scl 3 r := HR.out.2.2.2.2.2.2.2.2.2.2.2.2.2.1
        have hbe : p1 = hi 130 :: lo 130 :: hi r.1 :: lo r.1 :: lo r.2.1 :: lo r.2.2.1 :: hi (r.2.2.2.1 * 4096) :: lo (r.2.2.2.1 * 4096) :: hi 0 :: lo 0 :: hi 0 :: lo 0 :: hi (r.2.2.2.2 * 4096) :: lo (r.2.2.2.2 * 4096) :: tl := by rw [HR.out.2.2.1, hbs]; rfl
        have hm1 : m1 = 14 + tl.length := by rw [HR.out.2.1, hbe]; simp; omega
        have HBE := Lib.hid hbe
        have HML := Lib.hid hm1
        have hw0 : hi 130 * 256 + lo 130 = 130 := by decide
        have htl := (HR.out.2.2.2.1 (by first | rfl | trivial)).2
        have htl0 : tl.length = 0 := by rw [htl]; rfl
        have hmt : 14 ≤ m1 := by omega
        have hmt2 : m1 = 14 := by omega
        clear hbs hbe hm1 htl htl0
        have fb1 : (bits BinOp.and IntKind.u16 130 1 == 0) = true := by decide
        have fb2 : (bits BinOp.and IntKind.u16 130 2 == 0) = false := by decide
        have fb200 : (bits BinOp.and IntKind.u16 130 200 != 0) = true := by decide
        have fb8 : (bits BinOp.and IntKind.u16 130 8 != 0) = false := by decide
        have fb64 : (bits BinOp.and IntKind.u16 130 64 != 0) = false := by decide
        have fb128 : (bits BinOp.and IntKind.u16 130 128 != 0) = true := by decide
        have fb32 : (bits BinOp.and IntKind.u16 130 32 == 0) = true := by decide
        have n2 : ¬ c1 = 2 := by omega
        have z2 : (2 : Int) ≤ (c1 : Int) := by omega
        have n6 : ¬ c1 = 6 := by omega
        have z6 : (6 : Int) ≤ (c1 : Int) := by omega
        have n8 : ¬ c1 = 8 := by omega
        have z8 : (8 : Int) ≤ (c1 : Int) := by omega
        have n10 : ¬ c1 = 10 := by omega
        have z10 : (10 : Int) ≤ (c1 : Int) := by omega
        have n12 : ¬ c1 = 12 := by omega
        have z12 : (12 : Int) ≤ (c1 : Int) := by omega
        have z14 : (14 : Int) ≤ (c1 : Int) := by omega
        have y2 : ¬ c1 - 6 = 2 := by omega
        have x2 : (2 : Int) ≤ ((c1 - 6 : Nat) : Int) := by omega
        have y4 : ¬ c1 - 6 = 4 := by omega
        have x4 : (4 : Int) ≤ ((c1 - 6 : Nat) : Int) := by omega
        have y6 : ¬ c1 - 6 = 6 := by omega
        have x6 : (6 : Int) ≤ ((c1 - 6 : Nat) : Int) := by omega
        have x8 : (8 : Int) ≤ ((c1 - 6 : Nat) : Int) := by omega
        have la : ¬ ((m1 : Int) < 4) := by omega
        have lb : ¬ ((m1 : Int) < 6) := by omega
        have lc : ¬ (((m1 - 6 : Nat) : Int) < 8) := by omega
        have wi1 : IntKind.u32.wrap ((i : Int) + 1) = (i : Int) + 1 := IntWalk.u32_in _ (by omega)
        have si1 := small_in _ (HR.out.2.2.2.2.2.2.2.2.2.2.2.2.2.2.1 (by first | rfl | trivial)).1
        have si2 := small_in _ (HR.out.2.2.2.2.2.2.2.2.2.2.2.2.2.2.1 (by first | rfl | trivial)).2
        have si3 : IntKind.i16.wrap r.2.1 = r.2.1 := IntWalk.i16_in _ (by omega)
        have si4 : IntKind.i16.wrap r.2.2.1 = r.2.2.1 := IntWalk.i16_in _ (by omega)
        have q4 := byt_cell HR.out.1 (i := 4) (by have := HR.out.2.1; omega)
        have q5 := byt_cell HR.out.1 (i := 5) (by have := HR.out.2.1; omega)
        rw [HBE.out] at q4 q5
        have q4 : wr.cell? ⟨g, o1 + 4, none⟩ = some (.int .u8 (lo r.2.1)) := q4
        have q5 : wr.cell? ⟨g, o1 + 5, none⟩ = some (.int .u8 (lo r.2.2.1)) := q5
        have l4 : 4 < m1 := by omega
        have l5 : 5 < m1 := by omega
        have HB0 : Hid (Blk bb BT b1 wr) := Lib.hid HR.out.2.2.2.2.2.2.1
        have HL0 : Hid (Below B w wr) := Lib.hid HR.out.2.2.2.2.2.2.2.2.2.2.1
        have HG0 : Hid (wr.grownBy wr (some bb)) := Lib.hid (ItE.gself wr _)
        have hB6 : 600 ≤ b1.length := by rw [HR.out.2.2.2.2.2.2.2.2.1]; exact HP.out.2.2.2.2.2.2.1
        go_wp2_with fail
        refine (HU.out _ 0 _ _ _ (130) (by first | exact HL0.out) (by omega) (by omega) (by omega) (by rw [HBE.out]; exact hw0)).mono ?_
        rintro e w' ⟨rfl, rfl⟩
        go_upto_region 12 with (fail)
        obtain ⟨W1, hW⟩ : ∃ X, X = (wr).drew := ⟨_, rfl⟩
        have HB1 : Hid (Blk bb BT (b1) W1) := Lib.hid (by rw [hW]; exact HB0.out)
        have HL1 : Hid (Below B w W1) := Lib.hid (by rw [hW]; exact (Below.drew HL0.out))
        have HG1 : Hid (wr.grownBy W1 (some bb)) := Lib.hid (by rw [hW]; exact (gdrew HG0.out))
        rw [← hW]
        clear hW HB0 HL0 HG0
        obtain ⟨u1, ku⟩ := cell_ex HB1.out (idx := 2 + i * 8) (by first | omega | (simp only [List.length_set]; omega))
        have kf := HB1.out.frozen
        go_wp2_with fail
        refine (HU.out _ 2 _ _ _ (r.1) (by first | exact HL1.out) (by omega) (by omega) (by omega) (by rw [HBE.out]; exact wg)).mono ?_
        rintro e w' ⟨rfl, rfl⟩
        go_upto_region 13 with (fail)
        obtain ⟨W2, hW⟩ : ∃ X, X = ((W1.setCell ⟨bb, 2 + i * 8, none⟩ (.int .u16 r.1))).drew := ⟨_, rfl⟩
        have HB2 : Hid (Blk bb BT ((b1).set (2 + i * 8) (.int .u16 r.1)) W2) := Lib.hid (by rw [hW]; exact (HB1.out.set_ (2 + i * 8) (.int .u16 r.1)))
        have HL2 : Hid (Below B w W2) := Lib.hid (by rw [hW]; exact (Below.drew (HL1.out.setCell (p := ⟨bb, 2 + i * 8, none⟩) hbl (.int .u16 r.1))))
        have HG2 : Hid (wr.grownBy W2 (some bb)) := Lib.hid (by rw [hW]; exact (gdrew (gtr HG1.out (gset W1 bb (2 + i * 8) (.int .u16 r.1)))))
        rw [← hW]
        clear hW HB1 HL1 HG1 ku kf
        have qq := byt_cell (hAt.out _ HL2.out) (i := 4) (by have := HR.out.2.1; omega)
        rw [HBE.out] at qq
        have qq : W2.cell? ⟨g, o1 + 4, none⟩ = some (.int .u8 (lo (r.2.1))) := qq
        obtain ⟨u2, ku⟩ := cell_ex HB2.out (idx := 2 + i * 8 + 1) (by first | omega | (simp only [List.length_set]; omega))
        have kf := HB2.out.frozen
        go_upto_region 17 with (fail)
        obtain ⟨W3, hW⟩ : ∃ X, X = (W2.setCell ⟨bb, 2 + i * 8 + 1, none⟩ (.int .i16 r.2.1)) := ⟨_, rfl⟩
        have HB3 : Hid (Blk bb BT (((b1).set (2 + i * 8) (.int .u16 r.1)).set (2 + i * 8 + 1) (.int .i16 r.2.1)) W3) := Lib.hid (by rw [hW]; exact (HB2.out.set_ (2 + i * 8 + 1) (.int .i16 r.2.1)))
        have HL3 : Hid (Below B w W3) := Lib.hid (by rw [hW]; exact (HL2.out.setCell (p := ⟨bb, 2 + i * 8 + 1, none⟩) hbl (.int .i16 r.2.1)))
        have HG3 : Hid (wr.grownBy W3 (some bb)) := Lib.hid (by rw [hW]; exact (gtr HG2.out (gset W2 bb (2 + i * 8 + 1) (.int .i16 r.2.1))))
        rw [← hW]
        clear hW HB2 HL2 HG2 ku kf qq
        have qq := byt_cell (hAt.out _ HL3.out) (i := 5) (by have := HR.out.2.1; omega)
        rw [HBE.out] at qq
        have qq : W3.cell? ⟨g, o1 + 5, none⟩ = some (.int .u8 (lo (r.2.2.1))) := qq
        obtain ⟨u3, ku⟩ := cell_ex HB3.out (idx := 2 + i * 8 + 2) (by first | omega | (simp only [List.length_set]; omega))
        have kf := HB3.out.frozen
        go_upto_region 18 with (fail)
        obtain ⟨W4, hW⟩ : ∃ X, X = (W3.setCell ⟨bb, 2 + i * 8 + 2, none⟩ (.int .i16 r.2.2.1)) := ⟨_, rfl⟩
        have HB4 : Hid (Blk bb BT ((((b1).set (2 + i * 8) (.int .u16 r.1)).set (2 + i * 8 + 1) (.int .i16 r.2.1)).set (2 + i * 8 + 2) (.int .i16 r.2.2.1)) W4) := Lib.hid (by rw [hW]; exact (HB3.out.set_ (2 + i * 8 + 2) (.int .i16 r.2.2.1)))
        have HL4 : Hid (Below B w W4) := Lib.hid (by rw [hW]; exact (HL3.out.setCell (p := ⟨bb, 2 + i * 8 + 2, none⟩) hbl (.int .i16 r.2.2.1)))
        have HG4 : Hid (wr.grownBy W4 (some bb)) := Lib.hid (by rw [hW]; exact (gtr HG3.out (gset W3 bb (2 + i * 8 + 2) (.int .i16 r.2.2.1))))
        rw [← hW]
        clear hW HB3 HL3 HG3 ku kf qq
        obtain ⟨u4, ku⟩ := cell_ex HB4.out (idx := 2 + i * 8 + 3) (by first | omega | (simp only [List.length_set]; omega))
        have kf := HB4.out.frozen
        go_upto_region 47 with (fail)
        obtain ⟨W5, hW⟩ : ∃ X, X = (W4.setCell ⟨bb, 2 + i * 8 + 3, none⟩ (.bool true)) := ⟨_, rfl⟩
        have HB5 : Hid (Blk bb BT (((((b1).set (2 + i * 8) (.int .u16 r.1)).set (2 + i * 8 + 1) (.int .i16 r.2.1)).set (2 + i * 8 + 2) (.int .i16 r.2.2.1)).set (2 + i * 8 + 3) (.bool true)) W5) := Lib.hid (by rw [hW]; exact (HB4.out.set_ (2 + i * 8 + 3) (.bool true)))
        have HL5 : Hid (Below B w W5) := Lib.hid (by rw [hW]; exact (HL4.out.setCell (p := ⟨bb, 2 + i * 8 + 3, none⟩) hbl (.bool true)))
        have HG5 : Hid (wr.grownBy W5 (some bb)) := Lib.hid (by rw [hW]; exact (gtr HG4.out (gset W4 bb (2 + i * 8 + 3) (.bool true))))
        rw [← hW]
        clear hW HB4 HL4 HG4 ku kf
        obtain ⟨u5, ku⟩ := cell_ex HB5.out (idx := 2 + i * 8 + 4) (by first | omega | (simp only [List.length_set]; omega))
        have kf := HB5.out.frozen
        go_wp2_with fail
        refine (HU.out _ 6 _ _ _ (hi (r.2.2.2.1 * 4096) * 256 + lo (r.2.2.2.1 * 4096)) (by first | exact HL5.out) (by omega) (by omega) (by omega) (by rw [HBE.out]; rfl)).mono ?_
        rintro e w' ⟨rfl, rfl⟩
        go_upto_region 48 with (fail)
        obtain ⟨W6, hW⟩ : ∃ X, X = ((W5.setCell ⟨bb, 2 + i * 8 + 4, none⟩ (.int .i16 (r.2.2.2.1 * 4096)))).drew := ⟨_, rfl⟩
        have HB6 : Hid (Blk bb BT ((((((b1).set (2 + i * 8) (.int .u16 r.1)).set (2 + i * 8 + 1) (.int .i16 r.2.1)).set (2 + i * 8 + 2) (.int .i16 r.2.2.1)).set (2 + i * 8 + 3) (.bool true)).set (2 + i * 8 + 4) (.int .i16 (r.2.2.2.1 * 4096))) W6) := Lib.hid (by rw [hW]; exact (HB5.out.set_ (2 + i * 8 + 4) (.int .i16 (r.2.2.2.1 * 4096))))
        have HL6 : Hid (Below B w W6) := Lib.hid (by rw [hW]; exact (Below.drew (HL5.out.setCell (p := ⟨bb, 2 + i * 8 + 4, none⟩) hbl (.int .i16 (r.2.2.2.1 * 4096)))))
        have HG6 : Hid (wr.grownBy W6 (some bb)) := Lib.hid (by rw [hW]; exact (gdrew (gtr HG5.out (gset W5 bb (2 + i * 8 + 4) (.int .i16 (r.2.2.2.1 * 4096))))))
        rw [← hW]
        clear hW HB5 HL5 HG5 ku kf
        obtain ⟨u6, ku⟩ := cell_ex HB6.out (idx := 2 + i * 8 + 5) (by first | omega | (simp only [List.length_set]; omega))
        have kf := HB6.out.frozen
        go_wp2_with fail
        refine (HU.out _ 8 _ _ _ (0) (by first | exact HL6.out) (by omega) (by omega) (by omega) (by rw [HBE.out]; rfl)).mono ?_
        rintro e w' ⟨rfl, rfl⟩
        go_upto_region 49 with (fail)
        obtain ⟨W7, hW⟩ : ∃ X, X = ((W6.setCell ⟨bb, 2 + i * 8 + 5, none⟩ (.int .i16 0))).drew := ⟨_, rfl⟩
        have HB7 : Hid (Blk bb BT (((((((b1).set (2 + i * 8) (.int .u16 r.1)).set (2 + i * 8 + 1) (.int .i16 r.2.1)).set (2 + i * 8 + 2) (.int .i16 r.2.2.1)).set (2 + i * 8 + 3) (.bool true)).set (2 + i * 8 + 4) (.int .i16 (r.2.2.2.1 * 4096))).set (2 + i * 8 + 5) (.int .i16 0)) W7) := Lib.hid (by rw [hW]; exact (HB6.out.set_ (2 + i * 8 + 5) (.int .i16 0)))
        have HL7 : Hid (Below B w W7) := Lib.hid (by rw [hW]; exact (Below.drew (HL6.out.setCell (p := ⟨bb, 2 + i * 8 + 5, none⟩) hbl (.int .i16 0))))
        have HG7 : Hid (wr.grownBy W7 (some bb)) := Lib.hid (by rw [hW]; exact (gdrew (gtr HG6.out (gset W6 bb (2 + i * 8 + 5) (.int .i16 0)))))
        rw [← hW]
        clear hW HB6 HL6 HG6 ku kf
        obtain ⟨u7, ku⟩ := cell_ex HB7.out (idx := 2 + i * 8 + 6) (by first | omega | (simp only [List.length_set]; omega))
        have kf := HB7.out.frozen
        go_wp2_with fail
        refine (HU.out _ 10 _ _ _ (0) (by first | exact HL7.out) (by omega) (by omega) (by omega) (by rw [HBE.out]; rfl)).mono ?_
        rintro e w' ⟨rfl, rfl⟩
        go_upto_region 50 with (fail)
        obtain ⟨W8, hW⟩ : ∃ X, X = ((W7.setCell ⟨bb, 2 + i * 8 + 6, none⟩ (.int .i16 0))).drew := ⟨_, rfl⟩
        have HB8 : Hid (Blk bb BT ((((((((b1).set (2 + i * 8) (.int .u16 r.1)).set (2 + i * 8 + 1) (.int .i16 r.2.1)).set (2 + i * 8 + 2) (.int .i16 r.2.2.1)).set (2 + i * 8 + 3) (.bool true)).set (2 + i * 8 + 4) (.int .i16 (r.2.2.2.1 * 4096))).set (2 + i * 8 + 5) (.int .i16 0)).set (2 + i * 8 + 6) (.int .i16 0)) W8) := Lib.hid (by rw [hW]; exact (HB7.out.set_ (2 + i * 8 + 6) (.int .i16 0)))
        have HL8 : Hid (Below B w W8) := Lib.hid (by rw [hW]; exact (Below.drew (HL7.out.setCell (p := ⟨bb, 2 + i * 8 + 6, none⟩) hbl (.int .i16 0))))
        have HG8 : Hid (wr.grownBy W8 (some bb)) := Lib.hid (by rw [hW]; exact (gdrew (gtr HG7.out (gset W7 bb (2 + i * 8 + 6) (.int .i16 0)))))
        rw [← hW]
        clear hW HB7 HL7 HG7 ku kf
        obtain ⟨u8, ku⟩ := cell_ex HB8.out (idx := 2 + i * 8 + 7) (by first | omega | (simp only [List.length_set]; omega))
        have kf := HB8.out.frozen
        go_wp2_with fail
        refine (HU.out _ 12 _ _ _ (hi (r.2.2.2.2 * 4096) * 256 + lo (r.2.2.2.2 * 4096)) (by first | exact HL8.out) (by omega) (by omega) (by omega) (by rw [HBE.out]; rfl)).mono ?_
        rintro e w' ⟨rfl, rfl⟩
        go_upto_region 51 with (fail)
        obtain ⟨W9, hW⟩ : ∃ X, X = ((W8.setCell ⟨bb, 2 + i * 8 + 7, none⟩ (.int .i16 (r.2.2.2.2 * 4096)))).drew := ⟨_, rfl⟩
        have HB9 : Hid (Blk bb BT (((((((((b1).set (2 + i * 8) (.int .u16 r.1)).set (2 + i * 8 + 1) (.int .i16 r.2.1)).set (2 + i * 8 + 2) (.int .i16 r.2.2.1)).set (2 + i * 8 + 3) (.bool true)).set (2 + i * 8 + 4) (.int .i16 (r.2.2.2.1 * 4096))).set (2 + i * 8 + 5) (.int .i16 0)).set (2 + i * 8 + 6) (.int .i16 0)).set (2 + i * 8 + 7) (.int .i16 (r.2.2.2.2 * 4096))) W9) := Lib.hid (by rw [hW]; exact (HB8.out.set_ (2 + i * 8 + 7) (.int .i16 (r.2.2.2.2 * 4096))))
        have HL9 : Hid (Below B w W9) := Lib.hid (by rw [hW]; exact (Below.drew (HL8.out.setCell (p := ⟨bb, 2 + i * 8 + 7, none⟩) hbl (.int .i16 (r.2.2.2.2 * 4096)))))
        have HG9 : Hid (wr.grownBy W9 (some bb)) := Lib.hid (by rw [hW]; exact (gdrew (gtr HG8.out (gset W8 bb (2 + i * 8 + 7) (.int .i16 (r.2.2.2.2 * 4096))))))
        rw [← hW]
        clear hW HB8 HL8 HG8 ku kf
        have hst := stk_lay (ht := true) (xx := 0) (yy := 0) (c := [.int .u16 r.1, .int .i16 r.2.1, .int .i16 r.2.2.1, .bool true, .int .i16 (r.2.2.2.1 * 4096), .int .i16 0, .int .i16 0, .int .i16 (r.2.2.2.2 * 4096)]) HR.out.2.2.2.2.2.2.2.2.2.1 (by rw [HR.out.2.2.2.2.2.2.2.2.1]; have := HP.out.2.2.2.2.2.2.1; omega) (by simp) (by rw [HR.out.2.2.2.2.2.2.2.2.2.2.2.1]; rfl) (by rw [HR.out.2.2.2.2.2.2.2.2.2.2.2.1]; rfl) (by rw [HR.out.2.2.2.2.2.2.2.2.2.2.2.1]; rfl) rfl (fun _ => ⟨rfl, by rw [HR.out.2.2.2.2.2.2.2.2.2.2.2.1]; rfl, rfl, rfl, by rw [HR.out.2.2.2.2.2.2.2.2.2.2.2.1]; rfl⟩) (fun h => by cases h)
        have hl0 : (lay b1 (2 + i * 8) [.int .u16 r.1, .int .i16 r.2.1, .int .i16 r.2.2.1, .bool true, .int .i16 (r.2.2.2.1 * 4096), .int .i16 0, .int .i16 0, .int .i16 (r.2.2.2.2 * 4096)])[0]? = bd[0]? := by rw [lay_out _ _ _ _ (.inl (by omega))]; exact HR.out.2.2.2.2.2.2.2.1
        have hl1 : (lay b1 (2 + i * 8) [.int .u16 r.1, .int .i16 r.2.1, .int .i16 r.2.2.1, .bool true, .int .i16 (r.2.2.2.1 * 4096), .int .i16 0, .int .i16 0, .int .i16 (r.2.2.2.2 * 4096)])[1]? = some v1 := by rw [lay_out _ _ _ _ (.inl (by omega))]; exact HR.out.2.2.2.2.2.2.2.2.2.2.2.2.2.2.2.2.2.1
        have hll : (lay b1 (2 + i * 8) [.int .u16 r.1, .int .i16 r.2.1, .int .i16 r.2.2.1, .bool true, .int .i16 (r.2.2.2.1 * 4096), .int .i16 0, .int .i16 0, .int .i16 (r.2.2.2.2 * 4096)]).length = bd.length := by rw [lay_len]; exact HR.out.2.2.2.2.2.2.2.2.1
        have hbw : Blk bb BT (lay b1 (2 + i * 8) [.int .u16 r.1, .int .i16 r.2.1, .int .i16 r.2.2.1, .bool true, .int .i16 (r.2.2.2.1 * 4096), .int .i16 0, .int .i16 0, .int .i16 (r.2.2.2.2 * 4096)]) W9 := HB9.out
        have hsg := (HR.out.2.2.2.2.2.2.2.2.2.2.2.2.2.2.2.2.2.2.1).grown HR.out.2.2.2.2.2.2.1 (by decide) HG9.out
        have HST := Lib.hid (And.intro hst (And.intro hl0 (And.intro hl1 (And.intro hll (And.intro hbw hsg)))))
        clear hst hl0 hl1 hll hbw hsg
        have hni : n = i + 1 := by
          have h1 := congrArg List.length HR.out.2.2.2.2.2.2.2.2.2.2.2.2.1
          rw [(HR.out.2.2.2.1 (by first | rfl | trivial)).1, List.length_drop, List.length_nil] at h1
          have := HP.out.1
          omega
        have HNI := Lib.hid hni
        clear hni
        repeat (first | ((with_reducible refine Gate.seqr2 53 ?_); refine qrest w B fb bb n (lay b1 (2 + i * 8) [.int .u16 r.1, .int .i16 r.2.1, .int .i16 r.2.2.1, .bool true, .int .i16 (r.2.2.2.1 * 4096), .int .i16 0, .int .i16 0, .int .i16 (r.2.2.2.2 * 4096)]) L0 Gs Rs _ _ _ (by kernel_rfl) (by exact rfl) (by exact rfl) (by exact rfl) (by exact rfl) (by exact rfl) (by exact rfl) (by rw [HNI.out]; exact rfl) HP.out.1 hn3 hL0 hBw (by rw [HNI.out]; exact HST.out.1) ⟨HST.out.2.2.2.2.1, hbl, v1, HST.out.2.2.1, HST.out.2.2.2.2.2⟩ HL9.out HP.out.2.2.2.2.2.2.2.1 (fun j hj W' bd' L h1 h2 h3 h4 => HP.out.2.2.2.2.2.2.2.2.2 j hj W' bd' L h1 ((h2.2 0 (by decide)).trans HST.out.2.1) h3 h4)) | go_values | go_skip | go_guarded | go_step | go_upon | go_back)
    · as_aux_lemma =>
        have hbs : bs = words [35, r.1] ++ dxy false r ++ scl 0 r := HR.out.2.2.2.2.2.2.2.2.2.2.2.2.2.1
        have hbe : p1 = hi 35 :: lo 35 :: hi r.1 :: lo r.1 :: hi r.2.1 :: lo r.2.1 :: hi r.2.2.1 :: lo r.2.2.1 :: tl := by rw [HR.out.2.2.1, hbs]; rfl
        have hm1 : m1 = 8 + tl.length := by rw [HR.out.2.1, hbe]; simp; omega
        have HBE := Lib.hid hbe
        have HML := Lib.hid hm1
        have hw0 : hi 35 * 256 + lo 35 = 35 := by decide
        have htl := HR.out.2.2.2.2.2.2.2.2.2.2.2.2.2.2.2.2.2.2.2.2 (by first | rfl | trivial)
        have hin2 := HR.out.2.2.2.2.2.2.2.2.2.2.2.2.2.2.2.2.2.2.2.1 (by first | rfl | trivial)
        have hmt : 8 ≤ m1 := by omega
        have hmt2 : 8 < m1 := by omega
        clear hbs hbe hm1 htl
        have fb1 : (bits BinOp.and IntKind.u16 35 1 == 0) = false := by decide
        have fb2 : (bits BinOp.and IntKind.u16 35 2 == 0) = false := by decide
        have fb200 : (bits BinOp.and IntKind.u16 35 200 != 0) = false := by decide
        have fb8 : (bits BinOp.and IntKind.u16 35 8 != 0) = false := by decide
        have fb64 : (bits BinOp.and IntKind.u16 35 64 != 0) = false := by decide
        have fb128 : (bits BinOp.and IntKind.u16 35 128 != 0) = false := by decide
        have fb32 : (bits BinOp.and IntKind.u16 35 32 == 0) = false := by decide
        have n2 : ¬ c1 = 2 := by omega
        have z2 : (2 : Int) ≤ (c1 : Int) := by omega
        have n4 : ¬ c1 = 4 := by omega
        have z4 : (4 : Int) ≤ (c1 : Int) := by omega
        have n6 : ¬ c1 = 6 := by omega
        have z6 : (6 : Int) ≤ (c1 : Int) := by omega
        have n8 : ¬ c1 = 8 := by omega
        have z8 : (8 : Int) ≤ (c1 : Int) := by omega
        have la : ¬ ((m1 : Int) < 4) := by omega
        have lb : ¬ ((m1 : Int) < 8) := by omega
        have wi1 : IntKind.u32.wrap ((i : Int) + 1) = (i : Int) + 1 := IntWalk.u32_in _ (by omega)
        have HB0 : Hid (Blk bb BT b1 wr) := Lib.hid HR.out.2.2.2.2.2.2.1
        have HL0 : Hid (Below B w wr) := Lib.hid HR.out.2.2.2.2.2.2.2.2.2.2.1
        have HG0 : Hid (wr.grownBy wr (some bb)) := Lib.hid (ItE.gself wr _)
        have hB6 : 600 ≤ b1.length := by rw [HR.out.2.2.2.2.2.2.2.2.1]; exact HP.out.2.2.2.2.2.2.1
        go_wp2_with fail
        refine (HU.out _ 0 _ _ _ (35) (by first | exact HL0.out) (by omega) (by omega) (by omega) (by rw [HBE.out]; exact hw0)).mono ?_
        rintro e w' ⟨rfl, rfl⟩
        go_upto_region 12 with (fail)
        obtain ⟨W1, hW⟩ : ∃ X, X = (wr).drew := ⟨_, rfl⟩
        have HB1 : Hid (Blk bb BT (b1) W1) := Lib.hid (by rw [hW]; exact HB0.out)
        have HL1 : Hid (Below B w W1) := Lib.hid (by rw [hW]; exact (Below.drew HL0.out))
        have HG1 : Hid (wr.grownBy W1 (some bb)) := Lib.hid (by rw [hW]; exact (gdrew HG0.out))
        rw [← hW]
        clear hW HB0 HL0 HG0
        obtain ⟨u1, ku⟩ := cell_ex HB1.out (idx := 2 + i * 8) (by first | omega | (simp only [List.length_set]; omega))
        have kf := HB1.out.frozen
        go_wp2_with fail
        refine (HU.out _ 2 _ _ _ (r.1) (by first | exact HL1.out) (by omega) (by omega) (by omega) (by rw [HBE.out]; exact wg)).mono ?_
        rintro e w' ⟨rfl, rfl⟩
        go_upto_region 13 with (fail)
        obtain ⟨W2, hW⟩ : ∃ X, X = ((W1.setCell ⟨bb, 2 + i * 8, none⟩ (.int .u16 r.1))).drew := ⟨_, rfl⟩
        have HB2 : Hid (Blk bb BT ((b1).set (2 + i * 8) (.int .u16 r.1)) W2) := Lib.hid (by rw [hW]; exact (HB1.out.set_ (2 + i * 8) (.int .u16 r.1)))
        have HL2 : Hid (Below B w W2) := Lib.hid (by rw [hW]; exact (Below.drew (HL1.out.setCell (p := ⟨bb, 2 + i * 8, none⟩) hbl (.int .u16 r.1))))
        have HG2 : Hid (wr.grownBy W2 (some bb)) := Lib.hid (by rw [hW]; exact (gdrew (gtr HG1.out (gset W1 bb (2 + i * 8) (.int .u16 r.1)))))
        rw [← hW]
        clear hW HB1 HL1 HG1 ku kf
        obtain ⟨u2, ku⟩ := cell_ex HB2.out (idx := 2 + i * 8 + 1) (by first | omega | (simp only [List.length_set]; omega))
        have kf := HB2.out.frozen
        go_wp2_with fail
        refine (HU.out _ 4 _ _ _ (hi r.2.1 * 256 + lo r.2.1) (by first | exact HL2.out) (by omega) (by omega) (by omega) (by rw [HBE.out]; rfl)).mono ?_
        rintro e w' ⟨rfl, rfl⟩
        go_upto_region 22 with (fail)
        obtain ⟨W3, hW⟩ : ∃ X, X = ((W2.setCell ⟨bb, 2 + i * 8 + 1, none⟩ (.int .i16 r.2.1))).drew := ⟨_, rfl⟩
        have HB3 : Hid (Blk bb BT (((b1).set (2 + i * 8) (.int .u16 r.1)).set (2 + i * 8 + 1) (.int .i16 r.2.1)) W3) := Lib.hid (by rw [hW]; exact (HB2.out.set_ (2 + i * 8 + 1) (.int .i16 r.2.1)))
        have HL3 : Hid (Below B w W3) := Lib.hid (by rw [hW]; exact (Below.drew (HL2.out.setCell (p := ⟨bb, 2 + i * 8 + 1, none⟩) hbl (.int .i16 r.2.1))))
        have HG3 : Hid (wr.grownBy W3 (some bb)) := Lib.hid (by rw [hW]; exact (gdrew (gtr HG2.out (gset W2 bb (2 + i * 8 + 1) (.int .i16 r.2.1)))))
        rw [← hW]
        clear hW HB2 HL2 HG2 ku kf
        obtain ⟨u3, ku⟩ := cell_ex HB3.out (idx := 2 + i * 8 + 2) (by first | omega | (simp only [List.length_set]; omega))
        have kf := HB3.out.frozen
        go_wp2_with fail
        refine (HU.out _ 6 _ _ _ (hi r.2.2.1 * 256 + lo r.2.2.1) (by first | exact HL3.out) (by omega) (by omega) (by omega) (by rw [HBE.out]; rfl)).mono ?_
        rintro e w' ⟨rfl, rfl⟩
        go_upto_region 23 with (fail)
        obtain ⟨W4, hW⟩ : ∃ X, X = ((W3.setCell ⟨bb, 2 + i * 8 + 2, none⟩ (.int .i16 r.2.2.1))).drew := ⟨_, rfl⟩
        have HB4 : Hid (Blk bb BT ((((b1).set (2 + i * 8) (.int .u16 r.1)).set (2 + i * 8 + 1) (.int .i16 r.2.1)).set (2 + i * 8 + 2) (.int .i16 r.2.2.1)) W4) := Lib.hid (by rw [hW]; exact (HB3.out.set_ (2 + i * 8 + 2) (.int .i16 r.2.2.1)))
        have HL4 : Hid (Below B w W4) := Lib.hid (by rw [hW]; exact (Below.drew (HL3.out.setCell (p := ⟨bb, 2 + i * 8 + 2, none⟩) hbl (.int .i16 r.2.2.1))))
        have HG4 : Hid (wr.grownBy W4 (some bb)) := Lib.hid (by rw [hW]; exact (gdrew (gtr HG3.out (gset W3 bb (2 + i * 8 + 2) (.int .i16 r.2.2.1)))))
        rw [← hW]
        clear hW HB3 HL3 HG3 ku kf
        obtain ⟨u4, ku⟩ := cell_ex HB4.out (idx := 2 + i * 8 + 3) (by first | omega | (simp only [List.length_set]; omega))
        have kf := HB4.out.frozen
        go_upto_region 52 with (fail)
        obtain ⟨W5, hW⟩ : ∃ X, X = (W4.setCell ⟨bb, 2 + i * 8 + 3, none⟩ (.bool false)) := ⟨_, rfl⟩
        have HB5 : Hid (Blk bb BT (((((b1).set (2 + i * 8) (.int .u16 r.1)).set (2 + i * 8 + 1) (.int .i16 r.2.1)).set (2 + i * 8 + 2) (.int .i16 r.2.2.1)).set (2 + i * 8 + 3) (.bool false)) W5) := Lib.hid (by rw [hW]; exact (HB4.out.set_ (2 + i * 8 + 3) (.bool false)))
        have HL5 : Hid (Below B w W5) := Lib.hid (by rw [hW]; exact (HL4.out.setCell (p := ⟨bb, 2 + i * 8 + 3, none⟩) hbl (.bool false)))
        have HG5 : Hid (wr.grownBy W5 (some bb)) := Lib.hid (by rw [hW]; exact (gtr HG4.out (gset W4 bb (2 + i * 8 + 3) (.bool false))))
        rw [← hW]
        clear hW HB4 HL4 HG4 ku kf
        have hst := stk_lay (ht := false) (xx := 0) (yy := 0) (c := [.int .u16 r.1, .int .i16 r.2.1, .int .i16 r.2.2.1, .bool false]) HR.out.2.2.2.2.2.2.2.2.2.1 (by rw [HR.out.2.2.2.2.2.2.2.2.1]; have := HP.out.2.2.2.2.2.2.1; omega) (by simp) (by rw [HR.out.2.2.2.2.2.2.2.2.2.2.2.1]; rfl) (by rw [HR.out.2.2.2.2.2.2.2.2.2.2.2.1]; rfl) (by rw [HR.out.2.2.2.2.2.2.2.2.2.2.2.1]; rfl) rfl (fun h => by cases h) (fun _ => by rw [HR.out.2.2.2.2.2.2.2.2.2.2.2.1]; exact HR.out.2.2.2.2.2.2.2.2.2.2.2.2.2.2.2.1 (by first | rfl | trivial))
        have hl0 : (lay b1 (2 + i * 8) [.int .u16 r.1, .int .i16 r.2.1, .int .i16 r.2.2.1, .bool false])[0]? = bd[0]? := by rw [lay_out _ _ _ _ (.inl (by omega))]; exact HR.out.2.2.2.2.2.2.2.1
        have hl1 : (lay b1 (2 + i * 8) [.int .u16 r.1, .int .i16 r.2.1, .int .i16 r.2.2.1, .bool false])[1]? = some v1 := by rw [lay_out _ _ _ _ (.inl (by omega))]; exact HR.out.2.2.2.2.2.2.2.2.2.2.2.2.2.2.2.2.2.1
        have hll : (lay b1 (2 + i * 8) [.int .u16 r.1, .int .i16 r.2.1, .int .i16 r.2.2.1, .bool false]).length = bd.length := by rw [lay_len]; exact HR.out.2.2.2.2.2.2.2.2.1
        have hbw : Blk bb BT (lay b1 (2 + i * 8) [.int .u16 r.1, .int .i16 r.2.1, .int .i16 r.2.2.1, .bool false]) W5 := HB5.out
        have hsg := (HR.out.2.2.2.2.2.2.2.2.2.2.2.2.2.2.2.2.2.2.1).grown HR.out.2.2.2.2.2.2.1 (by decide) HG5.out
        have HST := Lib.hid (And.intro hst (And.intro hl0 (And.intro hl1 (And.intro hll (And.intro hbw hsg)))))
        clear hst hl0 hl1 hll hbw hsg
        go_wp2_with fail
        go_roundg (n - (i + 1))
        case rel => exact ⟨i + 1, o1 + 8, m1 - 8, c1 - 8, tl, lay b1 (2 + i * 8) [.int .u16 r.1, .int .i16 r.2.1, .int .i16 r.2.2.1, .bool false], rfl, rfl, by go_num, hin2, fun j u hu => (by
          have h := hAt.out _ HL5.out (j + 8) u (by rw [HBE.out]; exact hu)
          rw [show o1 + 8 + j = o1 + (j + 8) from by omega]
          exact h), by rw [HR.out.2.2.2.2.2.2.2.2.2.2.2.2.1]; exact HR.out.2.2.2.2.1 (by first | rfl | trivial), by have := HML.out; omega, by omega, by omega, fun x hx => HR.out.2.2.2.2.2.1 x (by rw [HBE.out]; simp [hx]), ⟨HST.out.2.2.2.2.1, hbl, v1, HST.out.2.2.1, HST.out.2.2.2.2.2⟩, HST.out.2.1, HST.out.2.2.2.1, HST.out.1, HL5.out⟩
        case measure => omega
    · as_aux_lemma =>
        have hbs : bs = words [43, r.1] ++ dxy false r ++ scl 1 r := HR.out.2.2.2.2.2.2.2.2.2.2.2.2.2.1
        have hbe : p1 = hi 43 :: lo 43 :: hi r.1 :: lo r.1 :: hi r.2.1 :: lo r.2.1 :: hi r.2.2.1 :: lo r.2.2.1 :: hi (r.2.2.2.1 * 4096) :: lo (r.2.2.2.1 * 4096) :: tl := by rw [HR.out.2.2.1, hbs]; rfl
        have hm1 : m1 = 10 + tl.length := by rw [HR.out.2.1, hbe]; simp; omega
        have HBE := Lib.hid hbe
        have HML := Lib.hid hm1
        have hw0 : hi 43 * 256 + lo 43 = 43 := by decide
        have htl := HR.out.2.2.2.2.2.2.2.2.2.2.2.2.2.2.2.2.2.2.2.2 (by first | rfl | trivial)
        have hin2 := HR.out.2.2.2.2.2.2.2.2.2.2.2.2.2.2.2.2.2.2.2.1 (by first | rfl | trivial)
        have hmt : 10 ≤ m1 := by omega
        have hmt2 : 10 < m1 := by omega
        clear hbs hbe hm1 htl
        have fb1 : (bits BinOp.and IntKind.u16 43 1 == 0) = false := by decide
        have fb2 : (bits BinOp.and IntKind.u16 43 2 == 0) = false := by decide
        have fb200 : (bits BinOp.and IntKind.u16 43 200 != 0) = true := by decide
        have fb8 : (bits BinOp.and IntKind.u16 43 8 != 0) = true := by decide
        have fb64 : (bits BinOp.and IntKind.u16 43 64 != 0) = false := by decide
        have fb128 : (bits BinOp.and IntKind.u16 43 128 != 0) = false := by decide
        have fb32 : (bits BinOp.and IntKind.u16 43 32 == 0) = false := by decide
        have n2 : ¬ c1 = 2 := by omega
        have z2 : (2 : Int) ≤ (c1 : Int) := by omega
        have n4 : ¬ c1 = 4 := by omega
        have z4 : (4 : Int) ≤ (c1 : Int) := by omega
        have n6 : ¬ c1 = 6 := by omega
        have z6 : (6 : Int) ≤ (c1 : Int) := by omega
        have n8 : ¬ c1 = 8 := by omega
        have z8 : (8 : Int) ≤ (c1 : Int) := by omega
        have n10 : ¬ c1 = 10 := by omega
        have z10 : (10 : Int) ≤ (c1 : Int) := by omega
        have y2 : ¬ c1 - 8 = 2 := by omega
        have x2 : (2 : Int) ≤ ((c1 - 8 : Nat) : Int) := by omega
        have la : ¬ ((m1 : Int) < 4) := by omega
        have lb : ¬ ((m1 : Int) < 8) := by omega
        have lc : ¬ (((m1 - 8 : Nat) : Int) < 2) := by omega
        have wi1 : IntKind.u32.wrap ((i : Int) + 1) = (i : Int) + 1 := IntWalk.u32_in _ (by omega)
        have HB0 : Hid (Blk bb BT b1 wr) := Lib.hid HR.out.2.2.2.2.2.2.1
        have HL0 : Hid (Below B w wr) := Lib.hid HR.out.2.2.2.2.2.2.2.2.2.2.1
        have HG0 : Hid (wr.grownBy wr (some bb)) := Lib.hid (ItE.gself wr _)
        have hB6 : 600 ≤ b1.length := by rw [HR.out.2.2.2.2.2.2.2.2.1]; exact HP.out.2.2.2.2.2.2.1
        go_wp2_with fail
        refine (HU.out _ 0 _ _ _ (43) (by first | exact HL0.out) (by omega) (by omega) (by omega) (by rw [HBE.out]; exact hw0)).mono ?_
        rintro e w' ⟨rfl, rfl⟩
        go_upto_region 12 with (fail)
        obtain ⟨W1, hW⟩ : ∃ X, X = (wr).drew := ⟨_, rfl⟩
        have HB1 : Hid (Blk bb BT (b1) W1) := Lib.hid (by rw [hW]; exact HB0.out)
        have HL1 : Hid (Below B w W1) := Lib.hid (by rw [hW]; exact (Below.drew HL0.out))
        have HG1 : Hid (wr.grownBy W1 (some bb)) := Lib.hid (by rw [hW]; exact (gdrew HG0.out))
        rw [← hW]
        clear hW HB0 HL0 HG0
        obtain ⟨u1, ku⟩ := cell_ex HB1.out (idx := 2 + i * 8) (by first | omega | (simp only [List.length_set]; omega))
        have kf := HB1.out.frozen
        go_wp2_with fail
        refine (HU.out _ 2 _ _ _ (r.1) (by first | exact HL1.out) (by omega) (by omega) (by omega) (by rw [HBE.out]; exact wg)).mono ?_
        rintro e w' ⟨rfl, rfl⟩
        go_upto_region 13 with (fail)
        obtain ⟨W2, hW⟩ : ∃ X, X = ((W1.setCell ⟨bb, 2 + i * 8, none⟩ (.int .u16 r.1))).drew := ⟨_, rfl⟩
        have HB2 : Hid (Blk bb BT ((b1).set (2 + i * 8) (.int .u16 r.1)) W2) := Lib.hid (by rw [hW]; exact (HB1.out.set_ (2 + i * 8) (.int .u16 r.1)))
        have HL2 : Hid (Below B w W2) := Lib.hid (by rw [hW]; exact (Below.drew (HL1.out.setCell (p := ⟨bb, 2 + i * 8, none⟩) hbl (.int .u16 r.1))))
        have HG2 : Hid (wr.grownBy W2 (some bb)) := Lib.hid (by rw [hW]; exact (gdrew (gtr HG1.out (gset W1 bb (2 + i * 8) (.int .u16 r.1)))))
        rw [← hW]
        clear hW HB1 HL1 HG1 ku kf
        obtain ⟨u2, ku⟩ := cell_ex HB2.out (idx := 2 + i * 8 + 1) (by first | omega | (simp only [List.length_set]; omega))
        have kf := HB2.out.frozen
        go_wp2_with fail
        refine (HU.out _ 4 _ _ _ (hi r.2.1 * 256 + lo r.2.1) (by first | exact HL2.out) (by omega) (by omega) (by omega) (by rw [HBE.out]; rfl)).mono ?_
        rintro e w' ⟨rfl, rfl⟩
        go_upto_region 22 with (fail)
        obtain ⟨W3, hW⟩ : ∃ X, X = ((W2.setCell ⟨bb, 2 + i * 8 + 1, none⟩ (.int .i16 r.2.1))).drew := ⟨_, rfl⟩
        have HB3 : Hid (Blk bb BT (((b1).set (2 + i * 8) (.int .u16 r.1)).set (2 + i * 8 + 1) (.int .i16 r.2.1)) W3) := Lib.hid (by rw [hW]; exact (HB2.out.set_ (2 + i * 8 + 1) (.int .i16 r.2.1)))
        have HL3 : Hid (Below B w W3) := Lib.hid (by rw [hW]; exact (Below.drew (HL2.out.setCell (p := ⟨bb, 2 + i * 8 + 1, none⟩) hbl (.int .i16 r.2.1))))
        have HG3 : Hid (wr.grownBy W3 (some bb)) := Lib.hid (by rw [hW]; exact (gdrew (gtr HG2.out (gset W2 bb (2 + i * 8 + 1) (.int .i16 r.2.1)))))
        rw [← hW]
        clear hW HB2 HL2 HG2 ku kf
        obtain ⟨u3, ku⟩ := cell_ex HB3.out (idx := 2 + i * 8 + 2) (by first | omega | (simp only [List.length_set]; omega))
        have kf := HB3.out.frozen
        go_wp2_with fail
        refine (HU.out _ 6 _ _ _ (hi r.2.2.1 * 256 + lo r.2.2.1) (by first | exact HL3.out) (by omega) (by omega) (by omega) (by rw [HBE.out]; rfl)).mono ?_
        rintro e w' ⟨rfl, rfl⟩
        go_upto_region 23 with (fail)
        obtain ⟨W4, hW⟩ : ∃ X, X = ((W3.setCell ⟨bb, 2 + i * 8 + 2, none⟩ (.int .i16 r.2.2.1))).drew := ⟨_, rfl⟩
        have HB4 : Hid (Blk bb BT ((((b1).set (2 + i * 8) (.int .u16 r.1)).set (2 + i * 8 + 1) (.int .i16 r.2.1)).set (2 + i * 8 + 2) (.int .i16 r.2.2.1)) W4) := Lib.hid (by rw [hW]; exact (HB3.out.set_ (2 + i * 8 + 2) (.int .i16 r.2.2.1)))
        have HL4 : Hid (Below B w W4) := Lib.hid (by rw [hW]; exact (Below.drew (HL3.out.setCell (p := ⟨bb, 2 + i * 8 + 2, none⟩) hbl (.int .i16 r.2.2.1))))
        have HG4 : Hid (wr.grownBy W4 (some bb)) := Lib.hid (by rw [hW]; exact (gdrew (gtr HG3.out (gset W3 bb (2 + i * 8 + 2) (.int .i16 r.2.2.1)))))
        rw [← hW]
        clear hW HB3 HL3 HG3 ku kf
        obtain ⟨u4, ku⟩ := cell_ex HB4.out (idx := 2 + i * 8 + 3) (by first | omega | (simp only [List.length_set]; omega))
        have kf := HB4.out.frozen
        go_upto_region 31 with (fail)
        obtain ⟨W5, hW⟩ : ∃ X, X = (W4.setCell ⟨bb, 2 + i * 8 + 3, none⟩ (.bool true)) := ⟨_, rfl⟩
        have HB5 : Hid (Blk bb BT (((((b1).set (2 + i * 8) (.int .u16 r.1)).set (2 + i * 8 + 1) (.int .i16 r.2.1)).set (2 + i * 8 + 2) (.int .i16 r.2.2.1)).set (2 + i * 8 + 3) (.bool true)) W5) := Lib.hid (by rw [hW]; exact (HB4.out.set_ (2 + i * 8 + 3) (.bool true)))
        have HL5 : Hid (Below B w W5) := Lib.hid (by rw [hW]; exact (HL4.out.setCell (p := ⟨bb, 2 + i * 8 + 3, none⟩) hbl (.bool true)))
        have HG5 : Hid (wr.grownBy W5 (some bb)) := Lib.hid (by rw [hW]; exact (gtr HG4.out (gset W4 bb (2 + i * 8 + 3) (.bool true))))
        rw [← hW]
        clear hW HB4 HL4 HG4 ku kf
        obtain ⟨u5, ku⟩ := cell_ex HB5.out (idx := 2 + i * 8 + 4) (by first | omega | (simp only [List.length_set]; omega))
        have kf := HB5.out.frozen
        go_wp2_with fail
        refine (HU.out _ 8 _ _ _ (hi (r.2.2.2.1 * 4096) * 256 + lo (r.2.2.2.1 * 4096)) (by first | exact HL5.out) (by omega) (by omega) (by omega) (by rw [HBE.out]; rfl)).mono ?_
        rintro e w' ⟨rfl, rfl⟩
        go_upto_region 32 with (fail)
        obtain ⟨W6, hW⟩ : ∃ X, X = ((W5.setCell ⟨bb, 2 + i * 8 + 4, none⟩ (.int .i16 (r.2.2.2.1 * 4096)))).drew := ⟨_, rfl⟩
        have HB6 : Hid (Blk bb BT ((((((b1).set (2 + i * 8) (.int .u16 r.1)).set (2 + i * 8 + 1) (.int .i16 r.2.1)).set (2 + i * 8 + 2) (.int .i16 r.2.2.1)).set (2 + i * 8 + 3) (.bool true)).set (2 + i * 8 + 4) (.int .i16 (r.2.2.2.1 * 4096))) W6) := Lib.hid (by rw [hW]; exact (HB5.out.set_ (2 + i * 8 + 4) (.int .i16 (r.2.2.2.1 * 4096))))
        have HL6 : Hid (Below B w W6) := Lib.hid (by rw [hW]; exact (Below.drew (HL5.out.setCell (p := ⟨bb, 2 + i * 8 + 4, none⟩) hbl (.int .i16 (r.2.2.2.1 * 4096)))))
        have HG6 : Hid (wr.grownBy W6 (some bb)) := Lib.hid (by rw [hW]; exact (gdrew (gtr HG5.out (gset W5 bb (2 + i * 8 + 4) (.int .i16 (r.2.2.2.1 * 4096))))))
        rw [← hW]
        clear hW HB5 HL5 HG5 ku kf
        obtain ⟨u6, ku⟩ := cell_ex HB6.out (idx := 2 + i * 8 + 5) (by first | omega | (simp only [List.length_set]; omega))
        have kf := HB6.out.frozen
        go_upto_region 33 with (fail)
        obtain ⟨W7, hW⟩ : ∃ X, X = (W6.setCell ⟨bb, 2 + i * 8 + 5, none⟩ (.int .i16 0)) := ⟨_, rfl⟩
        have HB7 : Hid (Blk bb BT (((((((b1).set (2 + i * 8) (.int .u16 r.1)).set (2 + i * 8 + 1) (.int .i16 r.2.1)).set (2 + i * 8 + 2) (.int .i16 r.2.2.1)).set (2 + i * 8 + 3) (.bool true)).set (2 + i * 8 + 4) (.int .i16 (r.2.2.2.1 * 4096))).set (2 + i * 8 + 5) (.int .i16 0)) W7) := Lib.hid (by rw [hW]; exact (HB6.out.set_ (2 + i * 8 + 5) (.int .i16 0)))
        have HL7 : Hid (Below B w W7) := Lib.hid (by rw [hW]; exact (HL6.out.setCell (p := ⟨bb, 2 + i * 8 + 5, none⟩) hbl (.int .i16 0)))
        have HG7 : Hid (wr.grownBy W7 (some bb)) := Lib.hid (by rw [hW]; exact (gtr HG6.out (gset W6 bb (2 + i * 8 + 5) (.int .i16 0))))
        rw [← hW]
        clear hW HB6 HL6 HG6 ku kf
        obtain ⟨u7, ku⟩ := cell_ex HB7.out (idx := 2 + i * 8 + 6) (by first | omega | (simp only [List.length_set]; omega))
        have kf := HB7.out.frozen
        go_upto_region 34 with (fail)
        obtain ⟨W8, hW⟩ : ∃ X, X = (W7.setCell ⟨bb, 2 + i * 8 + 6, none⟩ (.int .i16 0)) := ⟨_, rfl⟩
        have HB8 : Hid (Blk bb BT ((((((((b1).set (2 + i * 8) (.int .u16 r.1)).set (2 + i * 8 + 1) (.int .i16 r.2.1)).set (2 + i * 8 + 2) (.int .i16 r.2.2.1)).set (2 + i * 8 + 3) (.bool true)).set (2 + i * 8 + 4) (.int .i16 (r.2.2.2.1 * 4096))).set (2 + i * 8 + 5) (.int .i16 0)).set (2 + i * 8 + 6) (.int .i16 0)) W8) := Lib.hid (by rw [hW]; exact (HB7.out.set_ (2 + i * 8 + 6) (.int .i16 0)))
        have HL8 : Hid (Below B w W8) := Lib.hid (by rw [hW]; exact (HL7.out.setCell (p := ⟨bb, 2 + i * 8 + 6, none⟩) hbl (.int .i16 0)))
        have HG8 : Hid (wr.grownBy W8 (some bb)) := Lib.hid (by rw [hW]; exact (gtr HG7.out (gset W7 bb (2 + i * 8 + 6) (.int .i16 0))))
        rw [← hW]
        clear hW HB7 HL7 HG7 ku kf
        have k4 : W8.cell? ⟨bb, 2 + i * 8 + 4, none⟩ = some (.int .i16 (r.2.2.2.1 * 4096)) := HB8.out.cell (by rw [List.getElem?_set_ne (by omega), List.getElem?_set_ne (by omega), List.getElem?_set_self (by simp only [List.length_set]; omega)])
        obtain ⟨u8, ku⟩ := cell_ex HB8.out (idx := 2 + i * 8 + 7) (by first | omega | (simp only [List.length_set]; omega))
        have kf := HB8.out.frozen
        go_upto_region 35 with (fail)
        obtain ⟨W9, hW⟩ : ∃ X, X = (W8.setCell ⟨bb, 2 + i * 8 + 7, none⟩ (.int .i16 (r.2.2.2.1 * 4096))) := ⟨_, rfl⟩
        have HB9 : Hid (Blk bb BT (((((((((b1).set (2 + i * 8) (.int .u16 r.1)).set (2 + i * 8 + 1) (.int .i16 r.2.1)).set (2 + i * 8 + 2) (.int .i16 r.2.2.1)).set (2 + i * 8 + 3) (.bool true)).set (2 + i * 8 + 4) (.int .i16 (r.2.2.2.1 * 4096))).set (2 + i * 8 + 5) (.int .i16 0)).set (2 + i * 8 + 6) (.int .i16 0)).set (2 + i * 8 + 7) (.int .i16 (r.2.2.2.1 * 4096))) W9) := Lib.hid (by rw [hW]; exact (HB8.out.set_ (2 + i * 8 + 7) (.int .i16 (r.2.2.2.1 * 4096))))
        have HL9 : Hid (Below B w W9) := Lib.hid (by rw [hW]; exact (HL8.out.setCell (p := ⟨bb, 2 + i * 8 + 7, none⟩) hbl (.int .i16 (r.2.2.2.1 * 4096))))
        have HG9 : Hid (wr.grownBy W9 (some bb)) := Lib.hid (by rw [hW]; exact (gtr HG8.out (gset W8 bb (2 + i * 8 + 7) (.int .i16 (r.2.2.2.1 * 4096)))))
        rw [← hW]
        clear hW HB8 HL8 HG8 ku kf k4
        have hst := stk_lay (ht := true) (xx := 0) (yy := 0) (c := [.int .u16 r.1, .int .i16 r.2.1, .int .i16 r.2.2.1, .bool true, .int .i16 (r.2.2.2.1 * 4096), .int .i16 0, .int .i16 0, .int .i16 (r.2.2.2.1 * 4096)]) HR.out.2.2.2.2.2.2.2.2.2.1 (by rw [HR.out.2.2.2.2.2.2.2.2.1]; have := HP.out.2.2.2.2.2.2.1; omega) (by simp) (by rw [HR.out.2.2.2.2.2.2.2.2.2.2.2.1]; rfl) (by rw [HR.out.2.2.2.2.2.2.2.2.2.2.2.1]; rfl) (by rw [HR.out.2.2.2.2.2.2.2.2.2.2.2.1]; rfl) rfl (fun _ => ⟨rfl, by rw [HR.out.2.2.2.2.2.2.2.2.2.2.2.1]; rfl, rfl, rfl, by rw [HR.out.2.2.2.2.2.2.2.2.2.2.2.1, ← HR.out.2.2.2.2.2.2.2.2.2.2.2.2.2.2.2.2.1 (by first | rfl | trivial)]; rfl⟩) (fun h => by cases h)
        have hl0 : (lay b1 (2 + i * 8) [.int .u16 r.1, .int .i16 r.2.1, .int .i16 r.2.2.1, .bool true, .int .i16 (r.2.2.2.1 * 4096), .int .i16 0, .int .i16 0, .int .i16 (r.2.2.2.1 * 4096)])[0]? = bd[0]? := by rw [lay_out _ _ _ _ (.inl (by omega))]; exact HR.out.2.2.2.2.2.2.2.1
        have hl1 : (lay b1 (2 + i * 8) [.int .u16 r.1, .int .i16 r.2.1, .int .i16 r.2.2.1, .bool true, .int .i16 (r.2.2.2.1 * 4096), .int .i16 0, .int .i16 0, .int .i16 (r.2.2.2.1 * 4096)])[1]? = some v1 := by rw [lay_out _ _ _ _ (.inl (by omega))]; exact HR.out.2.2.2.2.2.2.2.2.2.2.2.2.2.2.2.2.2.1
        have hll : (lay b1 (2 + i * 8) [.int .u16 r.1, .int .i16 r.2.1, .int .i16 r.2.2.1, .bool true, .int .i16 (r.2.2.2.1 * 4096), .int .i16 0, .int .i16 0, .int .i16 (r.2.2.2.1 * 4096)]).length = bd.length := by rw [lay_len]; exact HR.out.2.2.2.2.2.2.2.2.1
        have hbw : Blk bb BT (lay b1 (2 + i * 8) [.int .u16 r.1, .int .i16 r.2.1, .int .i16 r.2.2.1, .bool true, .int .i16 (r.2.2.2.1 * 4096), .int .i16 0, .int .i16 0, .int .i16 (r.2.2.2.1 * 4096)]) W9 := HB9.out
        have hsg := (HR.out.2.2.2.2.2.2.2.2.2.2.2.2.2.2.2.2.2.2.1).grown HR.out.2.2.2.2.2.2.1 (by decide) HG9.out
        have HST := Lib.hid (And.intro hst (And.intro hl0 (And.intro hl1 (And.intro hll (And.intro hbw hsg)))))
        clear hst hl0 hl1 hll hbw hsg
        go_wp2_with fail
        go_roundg (n - (i + 1))
        case rel => exact ⟨i + 1, o1 + 8 + 2, m1 - 8 - 2, c1 - 8 - 2, tl, lay b1 (2 + i * 8) [.int .u16 r.1, .int .i16 r.2.1, .int .i16 r.2.2.1, .bool true, .int .i16 (r.2.2.2.1 * 4096), .int .i16 0, .int .i16 0, .int .i16 (r.2.2.2.1 * 4096)], rfl, rfl, by go_num, hin2, fun j u hu => (by
          have h := hAt.out _ HL9.out (j + 10) u (by rw [HBE.out]; exact hu)
          rw [show o1 + 8 + 2 + j = o1 + (j + 10) from by omega]
          exact h), by rw [HR.out.2.2.2.2.2.2.2.2.2.2.2.2.1]; exact HR.out.2.2.2.2.1 (by first | rfl | trivial), by have := HML.out; omega, by omega, by omega, fun x hx => HR.out.2.2.2.2.2.1 x (by rw [HBE.out]; simp [hx]), ⟨HST.out.2.2.2.2.1, hbl, v1, HST.out.2.2.1, HST.out.2.2.2.2.2⟩, HST.out.2.1, HST.out.2.2.2.1, HST.out.1, HL9.out⟩
        case measure => omega
    · as_aux_lemma =>
        have hbs : bs = words [99, r.1] ++ dxy false r ++ scl 2 r := HR.out.2.2.2.2.2.2.2.2.2.2.2.2.2.1
        have hbe : p1 = hi 99 :: lo 99 :: hi r.1 :: lo r.1 :: hi r.2.1 :: lo r.2.1 :: hi r.2.2.1 :: lo r.2.2.1 :: hi (r.2.2.2.1 * 4096) :: lo (r.2.2.2.1 * 4096) :: hi (r.2.2.2.2 * 4096) :: lo (r.2.2.2.2 * 4096) :: tl := by rw [HR.out.2.2.1, hbs]; rfl
        have hm1 : m1 = 12 + tl.length := by rw [HR.out.2.1, hbe]; simp; omega
        have HBE := Lib.hid hbe
        have HML := Lib.hid hm1
        have hw0 : hi 99 * 256 + lo 99 = 99 := by decide
        have htl := HR.out.2.2.2.2.2.2.2.2.2.2.2.2.2.2.2.2.2.2.2.2 (by first | rfl | trivial)
        have hin2 := HR.out.2.2.2.2.2.2.2.2.2.2.2.2.2.2.2.2.2.2.2.1 (by first | rfl | trivial)
        have hmt : 12 ≤ m1 := by omega
        have hmt2 : 12 < m1 := by omega
        clear hbs hbe hm1 htl
        have fb1 : (bits BinOp.and IntKind.u16 99 1 == 0) = false := by decide
        have fb2 : (bits BinOp.and IntKind.u16 99 2 == 0) = false := by decide
        have fb200 : (bits BinOp.and IntKind.u16 99 200 != 0) = true := by decide
        have fb8 : (bits BinOp.and IntKind.u16 99 8 != 0) = false := by decide
        have fb64 : (bits BinOp.and IntKind.u16 99 64 != 0) = true := by decide
        have fb128 : (bits BinOp.and IntKind.u16 99 128 != 0) = false := by decide
        have fb32 : (bits BinOp.and IntKind.u16 99 32 == 0) = false := by decide
        have n2 : ¬ c1 = 2 := by omega
        have z2 : (2 : Int) ≤ (c1 : Int) := by omega
        have n4 : ¬ c1 = 4 := by omega
        have z4 : (4 : Int) ≤ (c1 : Int) := by omega
        have n6 : ¬ c1 = 6 := by omega
        have z6 : (6 : Int) ≤ (c1 : Int) := by omega
        have n8 : ¬ c1 = 8 := by omega
        have z8 : (8 : Int) ≤ (c1 : Int) := by omega
        have n10 : ¬ c1 = 10 := by omega
        have z10 : (10 : Int) ≤ (c1 : Int) := by omega
        have n12 : ¬ c1 = 12 := by omega
        have z12 : (12 : Int) ≤ (c1 : Int) := by omega
        have y2 : ¬ c1 - 8 = 2 := by omega
        have x2 : (2 : Int) ≤ ((c1 - 8 : Nat) : Int) := by omega
        have y4 : ¬ c1 - 8 = 4 := by omega
        have x4 : (4 : Int) ≤ ((c1 - 8 : Nat) : Int) := by omega
        have la : ¬ ((m1 : Int) < 4) := by omega
        have lb : ¬ ((m1 : Int) < 8) := by omega
        have lc : ¬ (((m1 - 8 : Nat) : Int) < 4) := by omega
        have wi1 : IntKind.u32.wrap ((i : Int) + 1) = (i : Int) + 1 := IntWalk.u32_in _ (by omega)
        have HB0 : Hid (Blk bb BT b1 wr) := Lib.hid HR.out.2.2.2.2.2.2.1
        have HL0 : Hid (Below B w wr) := Lib.hid HR.out.2.2.2.2.2.2.2.2.2.2.1
        have HG0 : Hid (wr.grownBy wr (some bb)) := Lib.hid (ItE.gself wr _)
        have hB6 : 600 ≤ b1.length := by rw [HR.out.2.2.2.2.2.2.2.2.1]; exact HP.out.2.2.2.2.2.2.1
        go_wp2_with fail
        refine (HU.out _ 0 _ _ _ (99) (by first | exact HL0.out) (by omega) (by omega) (by omega) (by rw [HBE.out]; exact hw0)).mono ?_
        rintro e w' ⟨rfl, rfl⟩
        go_upto_region 12 with (fail)
        obtain ⟨W1, hW⟩ : ∃ X, X = (wr).drew := ⟨_, rfl⟩
        have HB1 : Hid (Blk bb BT (b1) W1) := Lib.hid (by rw [hW]; exact HB0.out)
        have HL1 : Hid (Below B w W1) := Lib.hid (by rw [hW]; exact (Below.drew HL0.out))
        have HG1 : Hid (wr.grownBy W1 (some bb)) := Lib.hid (by rw [hW]; exact (gdrew HG0.out))
        rw [← hW]
        clear hW HB0 HL0 HG0
        obtain ⟨u1, ku⟩ := cell_ex HB1.out (idx := 2 + i * 8) (by first | omega | (simp only [List.length_set]; omega))
        have kf := HB1.out.frozen
        go_wp2_with fail
        refine (HU.out _ 2 _ _ _ (r.1) (by first | exact HL1.out) (by omega) (by omega) (by omega) (by rw [HBE.out]; exact wg)).mono ?_
        rintro e w' ⟨rfl, rfl⟩
        go_upto_region 13 with (fail)
        obtain ⟨W2, hW⟩ : ∃ X, X = ((W1.setCell ⟨bb, 2 + i * 8, none⟩ (.int .u16 r.1))).drew := ⟨_, rfl⟩
        have HB2 : Hid (Blk bb BT ((b1).set (2 + i * 8) (.int .u16 r.1)) W2) := Lib.hid (by rw [hW]; exact (HB1.out.set_ (2 + i * 8) (.int .u16 r.1)))
        have HL2 : Hid (Below B w W2) := Lib.hid (by rw [hW]; exact (Below.drew (HL1.out.setCell (p := ⟨bb, 2 + i * 8, none⟩) hbl (.int .u16 r.1))))
        have HG2 : Hid (wr.grownBy W2 (some bb)) := Lib.hid (by rw [hW]; exact (gdrew (gtr HG1.out (gset W1 bb (2 + i * 8) (.int .u16 r.1)))))
        rw [← hW]
        clear hW HB1 HL1 HG1 ku kf
        obtain ⟨u2, ku⟩ := cell_ex HB2.out (idx := 2 + i * 8 + 1) (by first | omega | (simp only [List.length_set]; omega))
        have kf := HB2.out.frozen
        go_wp2_with fail
        refine (HU.out _ 4 _ _ _ (hi r.2.1 * 256 + lo r.2.1) (by first | exact HL2.out) (by omega) (by omega) (by omega) (by rw [HBE.out]; rfl)).mono ?_
        rintro e w' ⟨rfl, rfl⟩
        go_upto_region 22 with (fail)
        obtain ⟨W3, hW⟩ : ∃ X, X = ((W2.setCell ⟨bb, 2 + i * 8 + 1, none⟩ (.int .i16 r.2.1))).drew := ⟨_, rfl⟩
        have HB3 : Hid (Blk bb BT (((b1).set (2 + i * 8) (.int .u16 r.1)).set (2 + i * 8 + 1) (.int .i16 r.2.1)) W3) := Lib.hid (by rw [hW]; exact (HB2.out.set_ (2 + i * 8 + 1) (.int .i16 r.2.1)))
        have HL3 : Hid (Below B w W3) := Lib.hid (by rw [hW]; exact (Below.drew (HL2.out.setCell (p := ⟨bb, 2 + i * 8 + 1, none⟩) hbl (.int .i16 r.2.1))))
        have HG3 : Hid (wr.grownBy W3 (some bb)) := Lib.hid (by rw [hW]; exact (gdrew (gtr HG2.out (gset W2 bb (2 + i * 8 + 1) (.int .i16 r.2.1)))))
        rw [← hW]
        clear hW HB2 HL2 HG2 ku kf
        obtain ⟨u3, ku⟩ := cell_ex HB3.out (idx := 2 + i * 8 + 2) (by first | omega | (simp only [List.length_set]; omega))
        have kf := HB3.out.frozen
        go_wp2_with fail
        refine (HU.out _ 6 _ _ _ (hi r.2.2.1 * 256 + lo r.2.2.1) (by first | exact HL3.out) (by omega) (by omega) (by omega) (by rw [HBE.out]; rfl)).mono ?_
        rintro e w' ⟨rfl, rfl⟩
        go_upto_region 23 with (fail)
        obtain ⟨W4, hW⟩ : ∃ X, X = ((W3.setCell ⟨bb, 2 + i * 8 + 2, none⟩ (.int .i16 r.2.2.1))).drew := ⟨_, rfl⟩
        have HB4 : Hid (Blk bb BT ((((b1).set (2 + i * 8) (.int .u16 r.1)).set (2 + i * 8 + 1) (.int .i16 r.2.1)).set (2 + i * 8 + 2) (.int .i16 r.2.2.1)) W4) := Lib.hid (by rw [hW]; exact (HB3.out.set_ (2 + i * 8 + 2) (.int .i16 r.2.2.1)))
        have HL4 : Hid (Below B w W4) := Lib.hid (by rw [hW]; exact (Below.drew (HL3.out.setCell (p := ⟨bb, 2 + i * 8 + 2, none⟩) hbl (.int .i16 r.2.2.1))))
        have HG4 : Hid (wr.grownBy W4 (some bb)) := Lib.hid (by rw [hW]; exact (gdrew (gtr HG3.out (gset W3 bb (2 + i * 8 + 2) (.int .i16 r.2.2.1)))))
        rw [← hW]
        clear hW HB3 HL3 HG3 ku kf
        obtain ⟨u4, ku⟩ := cell_ex HB4.out (idx := 2 + i * 8 + 3) (by first | omega | (simp only [List.length_set]; omega))
        have kf := HB4.out.frozen
        go_upto_region 39 with (fail)
        obtain ⟨W5, hW⟩ : ∃ X, X = (W4.setCell ⟨bb, 2 + i * 8 + 3, none⟩ (.bool true)) := ⟨_, rfl⟩
        have HB5 : Hid (Blk bb BT (((((b1).set (2 + i * 8) (.int .u16 r.1)).set (2 + i * 8 + 1) (.int .i16 r.2.1)).set (2 + i * 8 + 2) (.int .i16 r.2.2.1)).set (2 + i * 8 + 3) (.bool true)) W5) := Lib.hid (by rw [hW]; exact (HB4.out.set_ (2 + i * 8 + 3) (.bool true)))
        have HL5 : Hid (Below B w W5) := Lib.hid (by rw [hW]; exact (HL4.out.setCell (p := ⟨bb, 2 + i * 8 + 3, none⟩) hbl (.bool true)))
        have HG5 : Hid (wr.grownBy W5 (some bb)) := Lib.hid (by rw [hW]; exact (gtr HG4.out (gset W4 bb (2 + i * 8 + 3) (.bool true))))
        rw [← hW]
        clear hW HB4 HL4 HG4 ku kf
        obtain ⟨u5, ku⟩ := cell_ex HB5.out (idx := 2 + i * 8 + 4) (by first | omega | (simp only [List.length_set]; omega))
        have kf := HB5.out.frozen
        go_wp2_with fail
        refine (HU.out _ 8 _ _ _ (hi (r.2.2.2.1 * 4096) * 256 + lo (r.2.2.2.1 * 4096)) (by first | exact HL5.out) (by omega) (by omega) (by omega) (by rw [HBE.out]; rfl)).mono ?_
        rintro e w' ⟨rfl, rfl⟩
        go_upto_region 40 with (fail)
        obtain ⟨W6, hW⟩ : ∃ X, X = ((W5.setCell ⟨bb, 2 + i * 8 + 4, none⟩ (.int .i16 (r.2.2.2.1 * 4096)))).drew := ⟨_, rfl⟩
        have HB6 : Hid (Blk bb BT ((((((b1).set (2 + i * 8) (.int .u16 r.1)).set (2 + i * 8 + 1) (.int .i16 r.2.1)).set (2 + i * 8 + 2) (.int .i16 r.2.2.1)).set (2 + i * 8 + 3) (.bool true)).set (2 + i * 8 + 4) (.int .i16 (r.2.2.2.1 * 4096))) W6) := Lib.hid (by rw [hW]; exact (HB5.out.set_ (2 + i * 8 + 4) (.int .i16 (r.2.2.2.1 * 4096))))
        have HL6 : Hid (Below B w W6) := Lib.hid (by rw [hW]; exact (Below.drew (HL5.out.setCell (p := ⟨bb, 2 + i * 8 + 4, none⟩) hbl (.int .i16 (r.2.2.2.1 * 4096)))))
        have HG6 : Hid (wr.grownBy W6 (some bb)) := Lib.hid (by rw [hW]; exact (gdrew (gtr HG5.out (gset W5 bb (2 + i * 8 + 4) (.int .i16 (r.2.2.2.1 * 4096))))))
        rw [← hW]
        clear hW HB5 HL5 HG5 ku kf
        obtain ⟨u6, ku⟩ := cell_ex HB6.out (idx := 2 + i * 8 + 5) (by first | omega | (simp only [List.length_set]; omega))
        have kf := HB6.out.frozen
        go_upto_region 41 with (fail)
        obtain ⟨W7, hW⟩ : ∃ X, X = (W6.setCell ⟨bb, 2 + i * 8 + 5, none⟩ (.int .i16 0)) := ⟨_, rfl⟩
        have HB7 : Hid (Blk bb BT (((((((b1).set (2 + i * 8) (.int .u16 r.1)).set (2 + i * 8 + 1) (.int .i16 r.2.1)).set (2 + i * 8 + 2) (.int .i16 r.2.2.1)).set (2 + i * 8 + 3) (.bool true)).set (2 + i * 8 + 4) (.int .i16 (r.2.2.2.1 * 4096))).set (2 + i * 8 + 5) (.int .i16 0)) W7) := Lib.hid (by rw [hW]; exact (HB6.out.set_ (2 + i * 8 + 5) (.int .i16 0)))
        have HL7 : Hid (Below B w W7) := Lib.hid (by rw [hW]; exact (HL6.out.setCell (p := ⟨bb, 2 + i * 8 + 5, none⟩) hbl (.int .i16 0)))
        have HG7 : Hid (wr.grownBy W7 (some bb)) := Lib.hid (by rw [hW]; exact (gtr HG6.out (gset W6 bb (2 + i * 8 + 5) (.int .i16 0))))
        rw [← hW]
        clear hW HB6 HL6 HG6 ku kf
        obtain ⟨u7, ku⟩ := cell_ex HB7.out (idx := 2 + i * 8 + 6) (by first | omega | (simp only [List.length_set]; omega))
        have kf := HB7.out.frozen
        go_upto_region 42 with (fail)
        obtain ⟨W8, hW⟩ : ∃ X, X = (W7.setCell ⟨bb, 2 + i * 8 + 6, none⟩ (.int .i16 0)) := ⟨_, rfl⟩
        have HB8 : Hid (Blk bb BT ((((((((b1).set (2 + i * 8) (.int .u16 r.1)).set (2 + i * 8 + 1) (.int .i16 r.2.1)).set (2 + i * 8 + 2) (.int .i16 r.2.2.1)).set (2 + i * 8 + 3) (.bool true)).set (2 + i * 8 + 4) (.int .i16 (r.2.2.2.1 * 4096))).set (2 + i * 8 + 5) (.int .i16 0)).set (2 + i * 8 + 6) (.int .i16 0)) W8) := Lib.hid (by rw [hW]; exact (HB7.out.set_ (2 + i * 8 + 6) (.int .i16 0)))
        have HL8 : Hid (Below B w W8) := Lib.hid (by rw [hW]; exact (HL7.out.setCell (p := ⟨bb, 2 + i * 8 + 6, none⟩) hbl (.int .i16 0)))
        have HG8 : Hid (wr.grownBy W8 (some bb)) := Lib.hid (by rw [hW]; exact (gtr HG7.out (gset W7 bb (2 + i * 8 + 6) (.int .i16 0))))
        rw [← hW]
        clear hW HB7 HL7 HG7 ku kf
        obtain ⟨u8, ku⟩ := cell_ex HB8.out (idx := 2 + i * 8 + 7) (by first | omega | (simp only [List.length_set]; omega))
        have kf := HB8.out.frozen
        go_wp2_with fail
        refine (HU.out _ 10 _ _ _ (hi (r.2.2.2.2 * 4096) * 256 + lo (r.2.2.2.2 * 4096)) (by first | exact HL8.out) (by omega) (by omega) (by omega) (by rw [HBE.out]; rfl)).mono ?_
        rintro e w' ⟨rfl, rfl⟩
        go_upto_region 43 with (fail)
        obtain ⟨W9, hW⟩ : ∃ X, X = ((W8.setCell ⟨bb, 2 + i * 8 + 7, none⟩ (.int .i16 (r.2.2.2.2 * 4096)))).drew := ⟨_, rfl⟩
        have HB9 : Hid (Blk bb BT (((((((((b1).set (2 + i * 8) (.int .u16 r.1)).set (2 + i * 8 + 1) (.int .i16 r.2.1)).set (2 + i * 8 + 2) (.int .i16 r.2.2.1)).set (2 + i * 8 + 3) (.bool true)).set (2 + i * 8 + 4) (.int .i16 (r.2.2.2.1 * 4096))).set (2 + i * 8 + 5) (.int .i16 0)).set (2 + i * 8 + 6) (.int .i16 0)).set (2 + i * 8 + 7) (.int .i16 (r.2.2.2.2 * 4096))) W9) := Lib.hid (by rw [hW]; exact (HB8.out.set_ (2 + i * 8 + 7) (.int .i16 (r.2.2.2.2 * 4096))))
        have HL9 : Hid (Below B w W9) := Lib.hid (by rw [hW]; exact (Below.drew (HL8.out.setCell (p := ⟨bb, 2 + i * 8 + 7, none⟩) hbl (.int .i16 (r.2.2.2.2 * 4096)))))
        have HG9 : Hid (wr.grownBy W9 (some bb)) := Lib.hid (by rw [hW]; exact (gdrew (gtr HG8.out (gset W8 bb (2 + i * 8 + 7) (.int .i16 (r.2.2.2.2 * 4096))))))
        rw [← hW]
        clear hW HB8 HL8 HG8 ku kf
        have hst := stk_lay (ht := true) (xx := 0) (yy := 0) (c := [.int .u16 r.1, .int .i16 r.2.1, .int .i16 r.2.2.1, .bool true, .int .i16 (r.2.2.2.1 * 4096), .int .i16 0, .int .i16 0, .int .i16 (r.2.2.2.2 * 4096)]) HR.out.2.2.2.2.2.2.2.2.2.1 (by rw [HR.out.2.2.2.2.2.2.2.2.1]; have := HP.out.2.2.2.2.2.2.1; omega) (by simp) (by rw [HR.out.2.2.2.2.2.2.2.2.2.2.2.1]; rfl) (by rw [HR.out.2.2.2.2.2.2.2.2.2.2.2.1]; rfl) (by rw [HR.out.2.2.2.2.2.2.2.2.2.2.2.1]; rfl) rfl (fun _ => ⟨rfl, by rw [HR.out.2.2.2.2.2.2.2.2.2.2.2.1]; rfl, rfl, rfl, by rw [HR.out.2.2.2.2.2.2.2.2.2.2.2.1]; rfl⟩) (fun h => by cases h)
        have hl0 : (lay b1 (2 + i * 8) [.int .u16 r.1, .int .i16 r.2.1, .int .i16 r.2.2.1, .bool true, .int .i16 (r.2.2.2.1 * 4096), .int .i16 0, .int .i16 0, .int .i16 (r.2.2.2.2 * 4096)])[0]? = bd[0]? := by rw [lay_out _ _ _ _ (.inl (by omega))]; exact HR.out.2.2.2.2.2.2.2.1
        have hl1 : (lay b1 (2 + i * 8) [.int .u16 r.1, .int .i16 r.2.1, .int .i16 r.2.2.1, .bool true, .int .i16 (r.2.2.2.1 * 4096), .int .i16 0, .int .i16 0, .int .i16 (r.2.2.2.2 * 4096)])[1]? = some v1 := by rw [lay_out _ _ _ _ (.inl (by omega))]; exact HR.out.2.2.2.2.2.2.2.2.2.2.2.2.2.2.2.2.2.1
        have hll : (lay b1 (2 + i * 8) [.int .u16 r.1, .int .i16 r.2.1, .int .i16 r.2.2.1, .bool true, .int .i16 (r.2.2.2.1 * 4096), .int .i16 0, .int .i16 0, .int .i16 (r.2.2.2.2 * 4096)]).length = bd.length := by rw [lay_len]; exact HR.out.2.2.2.2.2.2.2.2.1
        have hbw : Blk bb BT (lay b1 (2 + i * 8) [.int .u16 r.1, .int .i16 r.2.1, .int .i16 r.2.2.1, .bool true, .int .i16 (r.2.2.2.1 * 4096), .int .i16 0, .int .i16 0, .int .i16 (r.2.2.2.2 * 4096)]) W9 := HB9.out
        have hsg := (HR.out.2.2.2.2.2.2.2.2.2.2.2.2.2.2.2.2.2.2.1).grown HR.out.2.2.2.2.2.2.1 (by decide) HG9.out
        have HST := Lib.hid (And.intro hst (And.intro hl0 (And.intro hl1 (And.intro hll (And.intro hbw hsg)))))
        clear hst hl0 hl1 hll hbw hsg
        go_wp2_with fail
        go_roundg (n - (i + 1))
        case rel => exact ⟨i + 1, o1 + 8 + 4, m1 - 8 - 4, c1 - 8 - 4, tl, lay b1 (2 + i * 8) [.int .u16 r.1, .int .i16 r.2.1, .int .i16 r.2.2.1, .bool true, .int .i16 (r.2.2.2.1 * 4096), .int .i16 0, .int .i16 0, .int .i16 (r.2.2.2.2 * 4096)], rfl, rfl, by go_num, hin2, fun j u hu => (by
          have h := hAt.out _ HL9.out (j + 12) u (by rw [HBE.out]; exact hu)
          rw [show o1 + 8 + 4 + j = o1 + (j + 12) from by omega]
          exact h), by rw [HR.out.2.2.2.2.2.2.2.2.2.2.2.2.1]; exact HR.out.2.2.2.2.1 (by first | rfl | trivial), by have := HML.out; omega, by omega, by omega, fun x hx => HR.out.2.2.2.2.2.1 x (by rw [HBE.out]; simp [hx]), ⟨HST.out.2.2.2.2.1, hbl, v1, HST.out.2.2.1, HST.out.2.2.2.2.2⟩, HST.out.2.1, HST.out.2.2.2.1, HST.out.1, HL9.out⟩
        case measure => omega
    · as_aux_lemma =>
        have hbs : bs = words [163, r.1] ++ dxy false r ++ scl 3 r := HR.out.2.2.2.2.2.2.2.2.2.2.2.2.2.1
        have hbe : p1 = hi 163 :: lo 163 :: hi r.1 :: lo r.1 :: hi r.2.1 :: lo r.2.1 :: hi r.2.2.1 :: lo r.2.2.1 :: hi (r.2.2.2.1 * 4096) :: lo (r.2.2.2.1 * 4096) :: hi 0 :: lo 0 :: hi 0 :: lo 0 :: hi (r.2.2.2.2 * 4096) :: lo (r.2.2.2.2 * 4096) :: tl := by rw [HR.out.2.2.1, hbs]; rfl
        have hm1 : m1 = 16 + tl.length := by rw [HR.out.2.1, hbe]; simp; omega
        have HBE := Lib.hid hbe
        have HML := Lib.hid hm1
        have hw0 : hi 163 * 256 + lo 163 = 163 := by decide
        have htl := HR.out.2.2.2.2.2.2.2.2.2.2.2.2.2.2.2.2.2.2.2.2 (by first | rfl | trivial)
        have hin2 := HR.out.2.2.2.2.2.2.2.2.2.2.2.2.2.2.2.2.2.2.2.1 (by first | rfl | trivial)
        have hmt : 16 ≤ m1 := by omega
        have hmt2 : 16 < m1 := by omega
        clear hbs hbe hm1 htl
        have fb1 : (bits BinOp.and IntKind.u16 163 1 == 0) = false := by decide
        have fb2 : (bits BinOp.and IntKind.u16 163 2 == 0) = false := by decide
        have fb200 : (bits BinOp.and IntKind.u16 163 200 != 0) = true := by decide
        have fb8 : (bits BinOp.and IntKind.u16 163 8 != 0) = false := by decide
        have fb64 : (bits BinOp.and IntKind.u16 163 64 != 0) = false := by decide
        have fb128 : (bits BinOp.and IntKind.u16 163 128 != 0) = true := by decide
        have fb32 : (bits BinOp.and IntKind.u16 163 32 == 0) = false := by decide
        have n2 : ¬ c1 = 2 := by omega
        have z2 : (2 : Int) ≤ (c1 : Int) := by omega
        have n4 : ¬ c1 = 4 := by omega
        have z4 : (4 : Int) ≤ (c1 : Int) := by omega
        have n6 : ¬ c1 = 6 := by omega
        have z6 : (6 : Int) ≤ (c1 : Int) := by omega
        have n8 : ¬ c1 = 8 := by omega
        have z8 : (8 : Int) ≤ (c1 : Int) := by omega
        have n10 : ¬ c1 = 10 := by omega
        have z10 : (10 : Int) ≤ (c1 : Int) := by omega
        have n12 : ¬ c1 = 12 := by omega
        have z12 : (12 : Int) ≤ (c1 : Int) := by omega
        have n14 : ¬ c1 = 14 := by omega
        have z14 : (14 : Int) ≤ (c1 : Int) := by omega
        have n16 : ¬ c1 = 16 := by omega
        have z16 : (16 : Int) ≤ (c1 : Int) := by omega
        have y2 : ¬ c1 - 8 = 2 := by omega
        have x2 : (2 : Int) ≤ ((c1 - 8 : Nat) : Int) := by omega
        have y4 : ¬ c1 - 8 = 4 := by omega
        have x4 : (4 : Int) ≤ ((c1 - 8 : Nat) : Int) := by omega
        have y6 : ¬ c1 - 8 = 6 := by omega
        have x6 : (6 : Int) ≤ ((c1 - 8 : Nat) : Int) := by omega
        have y8 : ¬ c1 - 8 = 8 := by omega
        have x8 : (8 : Int) ≤ ((c1 - 8 : Nat) : Int) := by omega
        have la : ¬ ((m1 : Int) < 4) := by omega
        have lb : ¬ ((m1 : Int) < 8) := by omega
        have lc : ¬ (((m1 - 8 : Nat) : Int) < 8) := by omega
        have wi1 : IntKind.u32.wrap ((i : Int) + 1) = (i : Int) + 1 := IntWalk.u32_in _ (by omega)
        have HB0 : Hid (Blk bb BT b1 wr) := Lib.hid HR.out.2.2.2.2.2.2.1
        have HL0 : Hid (Below B w wr) := Lib.hid HR.out.2.2.2.2.2.2.2.2.2.2.1
        have HG0 : Hid (wr.grownBy wr (some bb)) := Lib.hid (ItE.gself wr _)
        have hB6 : 600 ≤ b1.length := by rw [HR.out.2.2.2.2.2.2.2.2.1]; exact HP.out.2.2.2.2.2.2.1
        go_wp2_with fail
        refine (HU.out _ 0 _ _ _ (163) (by first | exact HL0.out) (by omega) (by omega) (by omega) (by rw [HBE.out]; exact hw0)).mono ?_
        rintro e w' ⟨rfl, rfl⟩
        go_upto_region 12 with (fail)
        obtain ⟨W1, hW⟩ : ∃ X, X = (wr).drew := ⟨_, rfl⟩
        have HB1 : Hid (Blk bb BT (b1) W1) := Lib.hid (by rw [hW]; exact HB0.out)
        have HL1 : Hid (Below B w W1) := Lib.hid (by rw [hW]; exact (Below.drew HL0.out))
        have HG1 : Hid (wr.grownBy W1 (some bb)) := Lib.hid (by rw [hW]; exact (gdrew HG0.out))
        rw [← hW]
        clear hW HB0 HL0 HG0
        obtain ⟨u1, ku⟩ := cell_ex HB1.out (idx := 2 + i * 8) (by first | omega | (simp only [List.length_set]; omega))
        have kf := HB1.out.frozen
        go_wp2_with fail
        refine (HU.out _ 2 _ _ _ (r.1) (by first | exact HL1.out) (by omega) (by omega) (by omega) (by rw [HBE.out]; exact wg)).mono ?_
        rintro e w' ⟨rfl, rfl⟩
        go_upto_region 13 with (fail)
        obtain ⟨W2, hW⟩ : ∃ X, X = ((W1.setCell ⟨bb, 2 + i * 8, none⟩ (.int .u16 r.1))).drew := ⟨_, rfl⟩
        have HB2 : Hid (Blk bb BT ((b1).set (2 + i * 8) (.int .u16 r.1)) W2) := Lib.hid (by rw [hW]; exact (HB1.out.set_ (2 + i * 8) (.int .u16 r.1)))
        have HL2 : Hid (Below B w W2) := Lib.hid (by rw [hW]; exact (Below.drew (HL1.out.setCell (p := ⟨bb, 2 + i * 8, none⟩) hbl (.int .u16 r.1))))
        have HG2 : Hid (wr.grownBy W2 (some bb)) := Lib.hid (by rw [hW]; exact (gdrew (gtr HG1.out (gset W1 bb (2 + i * 8) (.int .u16 r.1)))))
        rw [← hW]
        clear hW HB1 HL1 HG1 ku kf
        obtain ⟨u2, ku⟩ := cell_ex HB2.out (idx := 2 + i * 8 + 1) (by first | omega | (simp only [List.length_set]; omega))
        have kf := HB2.out.frozen
        go_wp2_with fail
        refine (HU.out _ 4 _ _ _ (hi r.2.1 * 256 + lo r.2.1) (by first | exact HL2.out) (by omega) (by omega) (by omega) (by rw [HBE.out]; rfl)).mono ?_
        rintro e w' ⟨rfl, rfl⟩
        go_upto_region 22 with (fail)
        obtain ⟨W3, hW⟩ : ∃ X, X = ((W2.setCell ⟨bb, 2 + i * 8 + 1, none⟩ (.int .i16 r.2.1))).drew := ⟨_, rfl⟩
        have HB3 : Hid (Blk bb BT (((b1).set (2 + i * 8) (.int .u16 r.1)).set (2 + i * 8 + 1) (.int .i16 r.2.1)) W3) := Lib.hid (by rw [hW]; exact (HB2.out.set_ (2 + i * 8 + 1) (.int .i16 r.2.1)))
        have HL3 : Hid (Below B w W3) := Lib.hid (by rw [hW]; exact (Below.drew (HL2.out.setCell (p := ⟨bb, 2 + i * 8 + 1, none⟩) hbl (.int .i16 r.2.1))))
        have HG3 : Hid (wr.grownBy W3 (some bb)) := Lib.hid (by rw [hW]; exact (gdrew (gtr HG2.out (gset W2 bb (2 + i * 8 + 1) (.int .i16 r.2.1)))))
        rw [← hW]
        clear hW HB2 HL2 HG2 ku kf
        obtain ⟨u3, ku⟩ := cell_ex HB3.out (idx := 2 + i * 8 + 2) (by first | omega | (simp only [List.length_set]; omega))
        have kf := HB3.out.frozen
        go_wp2_with fail
        refine (HU.out _ 6 _ _ _ (hi r.2.2.1 * 256 + lo r.2.2.1) (by first | exact HL3.out) (by omega) (by omega) (by omega) (by rw [HBE.out]; rfl)).mono ?_
        rintro e w' ⟨rfl, rfl⟩
        go_upto_region 23 with (fail)
        obtain ⟨W4, hW⟩ : ∃ X, X = ((W3.setCell ⟨bb, 2 + i * 8 + 2, none⟩ (.int .i16 r.2.2.1))).drew := ⟨_, rfl⟩
        have HB4 : Hid (Blk bb BT ((((b1).set (2 + i * 8) (.int .u16 r.1)).set (2 + i * 8 + 1) (.int .i16 r.2.1)).set (2 + i * 8 + 2) (.int .i16 r.2.2.1)) W4) := Lib.hid (by rw [hW]; exact (HB3.out.set_ (2 + i * 8 + 2) (.int .i16 r.2.2.1)))
        have HL4 : Hid (Below B w W4) := Lib.hid (by rw [hW]; exact (Below.drew (HL3.out.setCell (p := ⟨bb, 2 + i * 8 + 2, none⟩) hbl (.int .i16 r.2.2.1))))
        have HG4 : Hid (wr.grownBy W4 (some bb)) := Lib.hid (by rw [hW]; exact (gdrew (gtr HG3.out (gset W3 bb (2 + i * 8 + 2) (.int .i16 r.2.2.1)))))
        rw [← hW]
        clear hW HB3 HL3 HG3 ku kf
        obtain ⟨u4, ku⟩ := cell_ex HB4.out (idx := 2 + i * 8 + 3) (by first | omega | (simp only [List.length_set]; omega))
        have kf := HB4.out.frozen
        go_upto_region 47 with (fail)
        obtain ⟨W5, hW⟩ : ∃ X, X = (W4.setCell ⟨bb, 2 + i * 8 + 3, none⟩ (.bool true)) := ⟨_, rfl⟩
        have HB5 : Hid (Blk bb BT (((((b1).set (2 + i * 8) (.int .u16 r.1)).set (2 + i * 8 + 1) (.int .i16 r.2.1)).set (2 + i * 8 + 2) (.int .i16 r.2.2.1)).set (2 + i * 8 + 3) (.bool true)) W5) := Lib.hid (by rw [hW]; exact (HB4.out.set_ (2 + i * 8 + 3) (.bool true)))
        have HL5 : Hid (Below B w W5) := Lib.hid (by rw [hW]; exact (HL4.out.setCell (p := ⟨bb, 2 + i * 8 + 3, none⟩) hbl (.bool true)))
        have HG5 : Hid (wr.grownBy W5 (some bb)) := Lib.hid (by rw [hW]; exact (gtr HG4.out (gset W4 bb (2 + i * 8 + 3) (.bool true))))
        rw [← hW]
        clear hW HB4 HL4 HG4 ku kf
        obtain ⟨u5, ku⟩ := cell_ex HB5.out (idx := 2 + i * 8 + 4) (by first | omega | (simp only [List.length_set]; omega))
        have kf := HB5.out.frozen
        go_wp2_with fail
        refine (HU.out _ 8 _ _ _ (hi (r.2.2.2.1 * 4096) * 256 + lo (r.2.2.2.1 * 4096)) (by first | exact HL5.out) (by omega) (by omega) (by omega) (by rw [HBE.out]; rfl)).mono ?_
        rintro e w' ⟨rfl, rfl⟩
        go_upto_region 48 with (fail)
        obtain ⟨W6, hW⟩ : ∃ X, X = ((W5.setCell ⟨bb, 2 + i * 8 + 4, none⟩ (.int .i16 (r.2.2.2.1 * 4096)))).drew := ⟨_, rfl⟩
        have HB6 : Hid (Blk bb BT ((((((b1).set (2 + i * 8) (.int .u16 r.1)).set (2 + i * 8 + 1) (.int .i16 r.2.1)).set (2 + i * 8 + 2) (.int .i16 r.2.2.1)).set (2 + i * 8 + 3) (.bool true)).set (2 + i * 8 + 4) (.int .i16 (r.2.2.2.1 * 4096))) W6) := Lib.hid (by rw [hW]; exact (HB5.out.set_ (2 + i * 8 + 4) (.int .i16 (r.2.2.2.1 * 4096))))
        have HL6 : Hid (Below B w W6) := Lib.hid (by rw [hW]; exact (Below.drew (HL5.out.setCell (p := ⟨bb, 2 + i * 8 + 4, none⟩) hbl (.int .i16 (r.2.2.2.1 * 4096)))))
        have HG6 : Hid (wr.grownBy W6 (some bb)) := Lib.hid (by rw [hW]; exact (gdrew (gtr HG5.out (gset W5 bb (2 + i * 8 + 4) (.int .i16 (r.2.2.2.1 * 4096))))))
        rw [← hW]
        clear hW HB5 HL5 HG5 ku kf
        obtain ⟨u6, ku⟩ := cell_ex HB6.out (idx := 2 + i * 8 + 5) (by first | omega | (simp only [List.length_set]; omega))
        have kf := HB6.out.frozen
        go_wp2_with fail
        refine (HU.out _ 10 _ _ _ (0) (by first | exact HL6.out) (by omega) (by omega) (by omega) (by rw [HBE.out]; rfl)).mono ?_
        rintro e w' ⟨rfl, rfl⟩
        go_upto_region 49 with (fail)
        obtain ⟨W7, hW⟩ : ∃ X, X = ((W6.setCell ⟨bb, 2 + i * 8 + 5, none⟩ (.int .i16 0))).drew := ⟨_, rfl⟩
        have HB7 : Hid (Blk bb BT (((((((b1).set (2 + i * 8) (.int .u16 r.1)).set (2 + i * 8 + 1) (.int .i16 r.2.1)).set (2 + i * 8 + 2) (.int .i16 r.2.2.1)).set (2 + i * 8 + 3) (.bool true)).set (2 + i * 8 + 4) (.int .i16 (r.2.2.2.1 * 4096))).set (2 + i * 8 + 5) (.int .i16 0)) W7) := Lib.hid (by rw [hW]; exact (HB6.out.set_ (2 + i * 8 + 5) (.int .i16 0)))
        have HL7 : Hid (Below B w W7) := Lib.hid (by rw [hW]; exact (Below.drew (HL6.out.setCell (p := ⟨bb, 2 + i * 8 + 5, none⟩) hbl (.int .i16 0))))
        have HG7 : Hid (wr.grownBy W7 (some bb)) := Lib.hid (by rw [hW]; exact (gdrew (gtr HG6.out (gset W6 bb (2 + i * 8 + 5) (.int .i16 0)))))
        rw [← hW]
        clear hW HB6 HL6 HG6 ku kf
        obtain ⟨u7, ku⟩ := cell_ex HB7.out (idx := 2 + i * 8 + 6) (by first | omega | (simp only [List.length_set]; omega))
        have kf := HB7.out.frozen
        go_wp2_with fail
        refine (HU.out _ 12 _ _ _ (0) (by first | exact HL7.out) (by omega) (by omega) (by omega) (by rw [HBE.out]; rfl)).mono ?_
        rintro e w' ⟨rfl, rfl⟩
        go_upto_region 50 with (fail)
        obtain ⟨W8, hW⟩ : ∃ X, X = ((W7.setCell ⟨bb, 2 + i * 8 + 6, none⟩ (.int .i16 0))).drew := ⟨_, rfl⟩
        have HB8 : Hid (Blk bb BT ((((((((b1).set (2 + i * 8) (.int .u16 r.1)).set (2 + i * 8 + 1) (.int .i16 r.2.1)).set (2 + i * 8 + 2) (.int .i16 r.2.2.1)).set (2 + i * 8 + 3) (.bool true)).set (2 + i * 8 + 4) (.int .i16 (r.2.2.2.1 * 4096))).set (2 + i * 8 + 5) (.int .i16 0)).set (2 + i * 8 + 6) (.int .i16 0)) W8) := Lib.hid (by rw [hW]; exact (HB7.out.set_ (2 + i * 8 + 6) (.int .i16 0)))
        have HL8 : Hid (Below B w W8) := Lib.hid (by rw [hW]; exact (Below.drew (HL7.out.setCell (p := ⟨bb, 2 + i * 8 + 6, none⟩) hbl (.int .i16 0))))
        have HG8 : Hid (wr.grownBy W8 (some bb)) := Lib.hid (by rw [hW]; exact (gdrew (gtr HG7.out (gset W7 bb (2 + i * 8 + 6) (.int .i16 0)))))
        rw [← hW]
        clear hW HB7 HL7 HG7 ku kf
        obtain ⟨u8, ku⟩ := cell_ex HB8.out (idx := 2 + i * 8 + 7) (by first | omega | (simp only [List.length_set]; omega))
        have kf := HB8.out.frozen
        go_wp2_with fail
        refine (HU.out _ 14 _ _ _ (hi (r.2.2.2.2 * 4096) * 256 + lo (r.2.2.2.2 * 4096)) (by first | exact HL8.out) (by omega) (by omega) (by omega) (by rw [HBE.out]; rfl)).mono ?_
        rintro e w' ⟨rfl, rfl⟩
        go_upto_region 51 with (fail)
        obtain ⟨W9, hW⟩ : ∃ X, X = ((W8.setCell ⟨bb, 2 + i * 8 + 7, none⟩ (.int .i16 (r.2.2.2.2 * 4096)))).drew := ⟨_, rfl⟩
        have HB9 : Hid (Blk bb BT (((((((((b1).set (2 + i * 8) (.int .u16 r.1)).set (2 + i * 8 + 1) (.int .i16 r.2.1)).set (2 + i * 8 + 2) (.int .i16 r.2.2.1)).set (2 + i * 8 + 3) (.bool true)).set (2 + i * 8 + 4) (.int .i16 (r.2.2.2.1 * 4096))).set (2 + i * 8 + 5) (.int .i16 0)).set (2 + i * 8 + 6) (.int .i16 0)).set (2 + i * 8 + 7) (.int .i16 (r.2.2.2.2 * 4096))) W9) := Lib.hid (by rw [hW]; exact (HB8.out.set_ (2 + i * 8 + 7) (.int .i16 (r.2.2.2.2 * 4096))))
        have HL9 : Hid (Below B w W9) := Lib.hid (by rw [hW]; exact (Below.drew (HL8.out.setCell (p := ⟨bb, 2 + i * 8 + 7, none⟩) hbl (.int .i16 (r.2.2.2.2 * 4096)))))
        have HG9 : Hid (wr.grownBy W9 (some bb)) := Lib.hid (by rw [hW]; exact (gdrew (gtr HG8.out (gset W8 bb (2 + i * 8 + 7) (.int .i16 (r.2.2.2.2 * 4096))))))
        rw [← hW]
        clear hW HB8 HL8 HG8 ku kf
        have hst := stk_lay (ht := true) (xx := 0) (yy := 0) (c := [.int .u16 r.1, .int .i16 r.2.1, .int .i16 r.2.2.1, .bool true, .int .i16 (r.2.2.2.1 * 4096), .int .i16 0, .int .i16 0, .int .i16 (r.2.2.2.2 * 4096)]) HR.out.2.2.2.2.2.2.2.2.2.1 (by rw [HR.out.2.2.2.2.2.2.2.2.1]; have := HP.out.2.2.2.2.2.2.1; omega) (by simp) (by rw [HR.out.2.2.2.2.2.2.2.2.2.2.2.1]; rfl) (by rw [HR.out.2.2.2.2.2.2.2.2.2.2.2.1]; rfl) (by rw [HR.out.2.2.2.2.2.2.2.2.2.2.2.1]; rfl) rfl (fun _ => ⟨rfl, by rw [HR.out.2.2.2.2.2.2.2.2.2.2.2.1]; rfl, rfl, rfl, by rw [HR.out.2.2.2.2.2.2.2.2.2.2.2.1]; rfl⟩) (fun h => by cases h)
        have hl0 : (lay b1 (2 + i * 8) [.int .u16 r.1, .int .i16 r.2.1, .int .i16 r.2.2.1, .bool true, .int .i16 (r.2.2.2.1 * 4096), .int .i16 0, .int .i16 0, .int .i16 (r.2.2.2.2 * 4096)])[0]? = bd[0]? := by rw [lay_out _ _ _ _ (.inl (by omega))]; exact HR.out.2.2.2.2.2.2.2.1
        have hl1 : (lay b1 (2 + i * 8) [.int .u16 r.1, .int .i16 r.2.1, .int .i16 r.2.2.1, .bool true, .int .i16 (r.2.2.2.1 * 4096), .int .i16 0, .int .i16 0, .int .i16 (r.2.2.2.2 * 4096)])[1]? = some v1 := by rw [lay_out _ _ _ _ (.inl (by omega))]; exact HR.out.2.2.2.2.2.2.2.2.2.2.2.2.2.2.2.2.2.1
        have hll : (lay b1 (2 + i * 8) [.int .u16 r.1, .int .i16 r.2.1, .int .i16 r.2.2.1, .bool true, .int .i16 (r.2.2.2.1 * 4096), .int .i16 0, .int .i16 0, .int .i16 (r.2.2.2.2 * 4096)]).length = bd.length := by rw [lay_len]; exact HR.out.2.2.2.2.2.2.2.2.1
        have hbw : Blk bb BT (lay b1 (2 + i * 8) [.int .u16 r.1, .int .i16 r.2.1, .int .i16 r.2.2.1, .bool true, .int .i16 (r.2.2.2.1 * 4096), .int .i16 0, .int .i16 0, .int .i16 (r.2.2.2.2 * 4096)]) W9 := HB9.out
        have hsg := (HR.out.2.2.2.2.2.2.2.2.2.2.2.2.2.2.2.2.2.2.1).grown HR.out.2.2.2.2.2.2.1 (by decide) HG9.out
        have HST := Lib.hid (And.intro hst (And.intro hl0 (And.intro hl1 (And.intro hll (And.intro hbw hsg)))))
        clear hst hl0 hl1 hll hbw hsg
        go_wp2_with fail
        go_roundg (n - (i + 1))
        case rel => exact ⟨i + 1, o1 + 8 + 8, m1 - 8 - 8, c1 - 8 - 8, tl, lay b1 (2 + i * 8) [.int .u16 r.1, .int .i16 r.2.1, .int .i16 r.2.2.1, .bool true, .int .i16 (r.2.2.2.1 * 4096), .int .i16 0, .int .i16 0, .int .i16 (r.2.2.2.2 * 4096)], rfl, rfl, by go_num, hin2, fun j u hu => (by
          have h := hAt.out _ HL9.out (j + 16) u (by rw [HBE.out]; exact hu)
          rw [show o1 + 8 + 8 + j = o1 + (j + 16) from by omega]
          exact h), by rw [HR.out.2.2.2.2.2.2.2.2.2.2.2.2.1]; exact HR.out.2.2.2.2.1 (by first | rfl | trivial), by have := HML.out; omega, by omega, by omega, fun x hx => HR.out.2.2.2.2.2.1 x (by rw [HBE.out]; simp [hx]), ⟨HST.out.2.2.2.2.1, hbl, v1, HST.out.2.2.1, HST.out.2.2.2.2.2⟩, HST.out.2.1, HST.out.2.2.2.1, HST.out.1, HL9.out⟩
        case measure => omega
    · as_aux_lemma =>
        have hbs : bs = words [34, r.1] ++ dxy true r ++ scl 0 r := HR.out.2.2.2.2.2.2.2.2.2.2.2.2.2.1
        have hbe : p1 = hi 34 :: lo 34 :: hi r.1 :: lo r.1 :: lo r.2.1 :: lo r.2.2.1 :: tl := by rw [HR.out.2.2.1, hbs]; rfl
        have hm1 : m1 = 6 + tl.length := by rw [HR.out.2.1, hbe]; simp; omega
        have HBE := Lib.hid hbe
        have HML := Lib.hid hm1
        have hw0 : hi 34 * 256 + lo 34 = 34 := by decide
        have htl := HR.out.2.2.2.2.2.2.2.2.2.2.2.2.2.2.2.2.2.2.2.2 (by first | rfl | trivial)
        have hin2 := HR.out.2.2.2.2.2.2.2.2.2.2.2.2.2.2.2.2.2.2.2.1 (by first | rfl | trivial)
        have hmt : 6 ≤ m1 := by omega
        have hmt2 : 6 < m1 := by omega
        clear hbs hbe hm1 htl
        have fb1 : (bits BinOp.and IntKind.u16 34 1 == 0) = true := by decide
        have fb2 : (bits BinOp.and IntKind.u16 34 2 == 0) = false := by decide
        have fb200 : (bits BinOp.and IntKind.u16 34 200 != 0) = false := by decide
        have fb8 : (bits BinOp.and IntKind.u16 34 8 != 0) = false := by decide
        have fb64 : (bits BinOp.and IntKind.u16 34 64 != 0) = false := by decide
        have fb128 : (bits BinOp.and IntKind.u16 34 128 != 0) = false := by decide
        have fb32 : (bits BinOp.and IntKind.u16 34 32 == 0) = false := by decide
        have n2 : ¬ c1 = 2 := by omega
        have z2 : (2 : Int) ≤ (c1 : Int) := by omega
        have n6 : ¬ c1 = 6 := by omega
        have z6 : (6 : Int) ≤ (c1 : Int) := by omega
        have la : ¬ ((m1 : Int) < 4) := by omega
        have lb : ¬ ((m1 : Int) < 6) := by omega
        have wi1 : IntKind.u32.wrap ((i : Int) + 1) = (i : Int) + 1 := IntWalk.u32_in _ (by omega)
        have si1 := small_in _ (HR.out.2.2.2.2.2.2.2.2.2.2.2.2.2.2.1 (by first | rfl | trivial)).1
        have si2 := small_in _ (HR.out.2.2.2.2.2.2.2.2.2.2.2.2.2.2.1 (by first | rfl | trivial)).2
        have si3 : IntKind.i16.wrap r.2.1 = r.2.1 := IntWalk.i16_in _ (by omega)
        have si4 : IntKind.i16.wrap r.2.2.1 = r.2.2.1 := IntWalk.i16_in _ (by omega)
        have q4 := byt_cell HR.out.1 (i := 4) (by have := HR.out.2.1; omega)
        have q5 := byt_cell HR.out.1 (i := 5) (by have := HR.out.2.1; omega)
        rw [HBE.out] at q4 q5
        have q4 : wr.cell? ⟨g, o1 + 4, none⟩ = some (.int .u8 (lo r.2.1)) := q4
        have q5 : wr.cell? ⟨g, o1 + 5, none⟩ = some (.int .u8 (lo r.2.2.1)) := q5
        have l4 : 4 < m1 := by omega
        have l5 : 5 < m1 := by omega
        have HB0 : Hid (Blk bb BT b1 wr) := Lib.hid HR.out.2.2.2.2.2.2.1
        have HL0 : Hid (Below B w wr) := Lib.hid HR.out.2.2.2.2.2.2.2.2.2.2.1
        have HG0 : Hid (wr.grownBy wr (some bb)) := Lib.hid (ItE.gself wr _)
        have hB6 : 600 ≤ b1.length := by rw [HR.out.2.2.2.2.2.2.2.2.1]; exact HP.out.2.2.2.2.2.2.1
        go_wp2_with fail
        refine (HU.out _ 0 _ _ _ (34) (by first | exact HL0.out) (by omega) (by omega) (by omega) (by rw [HBE.out]; exact hw0)).mono ?_
        rintro e w' ⟨rfl, rfl⟩
        go_upto_region 12 with (fail)
        obtain ⟨W1, hW⟩ : ∃ X, X = (wr).drew := ⟨_, rfl⟩
        have HB1 : Hid (Blk bb BT (b1) W1) := Lib.hid (by rw [hW]; exact HB0.out)
        have HL1 : Hid (Below B w W1) := Lib.hid (by rw [hW]; exact (Below.drew HL0.out))
        have HG1 : Hid (wr.grownBy W1 (some bb)) := Lib.hid (by rw [hW]; exact (gdrew HG0.out))
        rw [← hW]
        clear hW HB0 HL0 HG0
        obtain ⟨u1, ku⟩ := cell_ex HB1.out (idx := 2 + i * 8) (by first | omega | (simp only [List.length_set]; omega))
        have kf := HB1.out.frozen
        go_wp2_with fail
        refine (HU.out _ 2 _ _ _ (r.1) (by first | exact HL1.out) (by omega) (by omega) (by omega) (by rw [HBE.out]; exact wg)).mono ?_
        rintro e w' ⟨rfl, rfl⟩
        go_upto_region 13 with (fail)
        obtain ⟨W2, hW⟩ : ∃ X, X = ((W1.setCell ⟨bb, 2 + i * 8, none⟩ (.int .u16 r.1))).drew := ⟨_, rfl⟩
        have HB2 : Hid (Blk bb BT ((b1).set (2 + i * 8) (.int .u16 r.1)) W2) := Lib.hid (by rw [hW]; exact (HB1.out.set_ (2 + i * 8) (.int .u16 r.1)))
        have HL2 : Hid (Below B w W2) := Lib.hid (by rw [hW]; exact (Below.drew (HL1.out.setCell (p := ⟨bb, 2 + i * 8, none⟩) hbl (.int .u16 r.1))))
        have HG2 : Hid (wr.grownBy W2 (some bb)) := Lib.hid (by rw [hW]; exact (gdrew (gtr HG1.out (gset W1 bb (2 + i * 8) (.int .u16 r.1)))))
        rw [← hW]
        clear hW HB1 HL1 HG1 ku kf
        have qq := byt_cell (hAt.out _ HL2.out) (i := 4) (by have := HR.out.2.1; omega)
        rw [HBE.out] at qq
        have qq : W2.cell? ⟨g, o1 + 4, none⟩ = some (.int .u8 (lo (r.2.1))) := qq
        obtain ⟨u2, ku⟩ := cell_ex HB2.out (idx := 2 + i * 8 + 1) (by first | omega | (simp only [List.length_set]; omega))
        have kf := HB2.out.frozen
        go_upto_region 17 with (fail)
        obtain ⟨W3, hW⟩ : ∃ X, X = (W2.setCell ⟨bb, 2 + i * 8 + 1, none⟩ (.int .i16 r.2.1)) := ⟨_, rfl⟩
        have HB3 : Hid (Blk bb BT (((b1).set (2 + i * 8) (.int .u16 r.1)).set (2 + i * 8 + 1) (.int .i16 r.2.1)) W3) := Lib.hid (by rw [hW]; exact (HB2.out.set_ (2 + i * 8 + 1) (.int .i16 r.2.1)))
        have HL3 : Hid (Below B w W3) := Lib.hid (by rw [hW]; exact (HL2.out.setCell (p := ⟨bb, 2 + i * 8 + 1, none⟩) hbl (.int .i16 r.2.1)))
        have HG3 : Hid (wr.grownBy W3 (some bb)) := Lib.hid (by rw [hW]; exact (gtr HG2.out (gset W2 bb (2 + i * 8 + 1) (.int .i16 r.2.1))))
        rw [← hW]
        clear hW HB2 HL2 HG2 ku kf qq
        have qq := byt_cell (hAt.out _ HL3.out) (i := 5) (by have := HR.out.2.1; omega)
        rw [HBE.out] at qq
        have qq : W3.cell? ⟨g, o1 + 5, none⟩ = some (.int .u8 (lo (r.2.2.1))) := qq
        obtain ⟨u3, ku⟩ := cell_ex HB3.out (idx := 2 + i * 8 + 2) (by first | omega | (simp only [List.length_set]; omega))
        have kf := HB3.out.frozen
        go_upto_region 18 with (fail)
        obtain ⟨W4, hW⟩ : ∃ X, X = (W3.setCell ⟨bb, 2 + i * 8 + 2, none⟩ (.int .i16 r.2.2.1)) := ⟨_, rfl⟩
        have HB4 : Hid (Blk bb BT ((((b1).set (2 + i * 8) (.int .u16 r.1)).set (2 + i * 8 + 1) (.int .i16 r.2.1)).set (2 + i * 8 + 2) (.int .i16 r.2.2.1)) W4) := Lib.hid (by rw [hW]; exact (HB3.out.set_ (2 + i * 8 + 2) (.int .i16 r.2.2.1)))
        have HL4 : Hid (Below B w W4) := Lib.hid (by rw [hW]; exact (HL3.out.setCell (p := ⟨bb, 2 + i * 8 + 2, none⟩) hbl (.int .i16 r.2.2.1)))
        have HG4 : Hid (wr.grownBy W4 (some bb)) := Lib.hid (by rw [hW]; exact (gtr HG3.out (gset W3 bb (2 + i * 8 + 2) (.int .i16 r.2.2.1))))
        rw [← hW]
        clear hW HB3 HL3 HG3 ku kf qq
        obtain ⟨u4, ku⟩ := cell_ex HB4.out (idx := 2 + i * 8 + 3) (by first | omega | (simp only [List.length_set]; omega))
        have kf := HB4.out.frozen
        go_upto_region 52 with (fail)
        obtain ⟨W5, hW⟩ : ∃ X, X = (W4.setCell ⟨bb, 2 + i * 8 + 3, none⟩ (.bool false)) := ⟨_, rfl⟩
        have HB5 : Hid (Blk bb BT (((((b1).set (2 + i * 8) (.int .u16 r.1)).set (2 + i * 8 + 1) (.int .i16 r.2.1)).set (2 + i * 8 + 2) (.int .i16 r.2.2.1)).set (2 + i * 8 + 3) (.bool false)) W5) := Lib.hid (by rw [hW]; exact (HB4.out.set_ (2 + i * 8 + 3) (.bool false)))
        have HL5 : Hid (Below B w W5) := Lib.hid (by rw [hW]; exact (HL4.out.setCell (p := ⟨bb, 2 + i * 8 + 3, none⟩) hbl (.bool false)))
        have HG5 : Hid (wr.grownBy W5 (some bb)) := Lib.hid (by rw [hW]; exact (gtr HG4.out (gset W4 bb (2 + i * 8 + 3) (.bool false))))
        rw [← hW]
        clear hW HB4 HL4 HG4 ku kf
        have hst := stk_lay (ht := false) (xx := 0) (yy := 0) (c := [.int .u16 r.1, .int .i16 r.2.1, .int .i16 r.2.2.1, .bool false]) HR.out.2.2.2.2.2.2.2.2.2.1 (by rw [HR.out.2.2.2.2.2.2.2.2.1]; have := HP.out.2.2.2.2.2.2.1; omega) (by simp) (by rw [HR.out.2.2.2.2.2.2.2.2.2.2.2.1]; rfl) (by rw [HR.out.2.2.2.2.2.2.2.2.2.2.2.1]; rfl) (by rw [HR.out.2.2.2.2.2.2.2.2.2.2.2.1]; rfl) rfl (fun h => by cases h) (fun _ => by rw [HR.out.2.2.2.2.2.2.2.2.2.2.2.1]; exact HR.out.2.2.2.2.2.2.2.2.2.2.2.2.2.2.2.1 (by first | rfl | trivial))
        have hl0 : (lay b1 (2 + i * 8) [.int .u16 r.1, .int .i16 r.2.1, .int .i16 r.2.2.1, .bool false])[0]? = bd[0]? := by rw [lay_out _ _ _ _ (.inl (by omega))]; exact HR.out.2.2.2.2.2.2.2.1
        have hl1 : (lay b1 (2 + i * 8) [.int .u16 r.1, .int .i16 r.2.1, .int .i16 r.2.2.1, .bool false])[1]? = some v1 := by rw [lay_out _ _ _ _ (.inl (by omega))]; exact HR.out.2.2.2.2.2.2.2.2.2.2.2.2.2.2.2.2.2.1
        have hll : (lay b1 (2 + i * 8) [.int .u16 r.1, .int .i16 r.2.1, .int .i16 r.2.2.1, .bool false]).length = bd.length := by rw [lay_len]; exact HR.out.2.2.2.2.2.2.2.2.1
        have hbw : Blk bb BT (lay b1 (2 + i * 8) [.int .u16 r.1, .int .i16 r.2.1, .int .i16 r.2.2.1, .bool false]) W5 := HB5.out
        have hsg := (HR.out.2.2.2.2.2.2.2.2.2.2.2.2.2.2.2.2.2.2.1).grown HR.out.2.2.2.2.2.2.1 (by decide) HG5.out
        have HST := Lib.hid (And.intro hst (And.intro hl0 (And.intro hl1 (And.intro hll (And.intro hbw hsg)))))
        clear hst hl0 hl1 hll hbw hsg
        go_wp2_with fail
        go_roundg (n - (i + 1))
        case rel => exact ⟨i + 1, o1 + 6, m1 - 6, c1 - 6, tl, lay b1 (2 + i * 8) [.int .u16 r.1, .int .i16 r.2.1, .int .i16 r.2.2.1, .bool false], rfl, rfl, by go_num, hin2, fun j u hu => (by
          have h := hAt.out _ HL5.out (j + 6) u (by rw [HBE.out]; exact hu)
          rw [show o1 + 6 + j = o1 + (j + 6) from by omega]
          exact h), by rw [HR.out.2.2.2.2.2.2.2.2.2.2.2.2.1]; exact HR.out.2.2.2.2.1 (by first | rfl | trivial), by have := HML.out; omega, by omega, by omega, fun x hx => HR.out.2.2.2.2.2.1 x (by rw [HBE.out]; simp [hx]), ⟨HST.out.2.2.2.2.1, hbl, v1, HST.out.2.2.1, HST.out.2.2.2.2.2⟩, HST.out.2.1, HST.out.2.2.2.1, HST.out.1, HL5.out⟩
        case measure => omega
    · as_aux_lemma =>
        have hbs : bs = words [42, r.1] ++ dxy true r ++ scl 1 r := HR.out.2.2.2.2.2.2.2.2.2.2.2.2.2.1
        have hbe : p1 = hi 42 :: lo 42 :: hi r.1 :: lo r.1 :: lo r.2.1 :: lo r.2.2.1 :: hi (r.2.2.2.1 * 4096) :: lo (r.2.2.2.1 * 4096) :: tl := by rw [HR.out.2.2.1, hbs]; rfl
        have hm1 : m1 = 8 + tl.length := by rw [HR.out.2.1, hbe]; simp; omega
        have HBE := Lib.hid hbe
        have HML := Lib.hid hm1
        have hw0 : hi 42 * 256 + lo 42 = 42 := by decide
        have htl := HR.out.2.2.2.2.2.2.2.2.2.2.2.2.2.2.2.2.2.2.2.2 (by first | rfl | trivial)
        have hin2 := HR.out.2.2.2.2.2.2.2.2.2.2.2.2.2.2.2.2.2.2.2.1 (by first | rfl | trivial)
        have hmt : 8 ≤ m1 := by omega
        have hmt2 : 8 < m1 := by omega
        clear hbs hbe hm1 htl
        have fb1 : (bits BinOp.and IntKind.u16 42 1 == 0) = true := by decide
        have fb2 : (bits BinOp.and IntKind.u16 42 2 == 0) = false := by decide
        have fb200 : (bits BinOp.and IntKind.u16 42 200 != 0) = true := by decide
        have fb8 : (bits BinOp.and IntKind.u16 42 8 != 0) = true := by decide
        have fb64 : (bits BinOp.and IntKind.u16 42 64 != 0) = false := by decide
        have fb128 : (bits BinOp.and IntKind.u16 42 128 != 0) = false := by decide
        have fb32 : (bits BinOp.and IntKind.u16 42 32 == 0) = false := by decide
        have n2 : ¬ c1 = 2 := by omega
        have z2 : (2 : Int) ≤ (c1 : Int) := by omega
        have n6 : ¬ c1 = 6 := by omega
        have z6 : (6 : Int) ≤ (c1 : Int) := by omega
        have n8 : ¬ c1 = 8 := by omega
        have z8 : (8 : Int) ≤ (c1 : Int) := by omega
        have y2 : ¬ c1 - 6 = 2 := by omega
        have x2 : (2 : Int) ≤ ((c1 - 6 : Nat) : Int) := by omega
        have la : ¬ ((m1 : Int) < 4) := by omega
        have lb : ¬ ((m1 : Int) < 6) := by omega
        have lc : ¬ (((m1 - 6 : Nat) : Int) < 2) := by omega
        have wi1 : IntKind.u32.wrap ((i : Int) + 1) = (i : Int) + 1 := IntWalk.u32_in _ (by omega)
        have si1 := small_in _ (HR.out.2.2.2.2.2.2.2.2.2.2.2.2.2.2.1 (by first | rfl | trivial)).1
        have si2 := small_in _ (HR.out.2.2.2.2.2.2.2.2.2.2.2.2.2.2.1 (by first | rfl | trivial)).2
        have si3 : IntKind.i16.wrap r.2.1 = r.2.1 := IntWalk.i16_in _ (by omega)
        have si4 : IntKind.i16.wrap r.2.2.1 = r.2.2.1 := IntWalk.i16_in _ (by omega)
        have q4 := byt_cell HR.out.1 (i := 4) (by have := HR.out.2.1; omega)
        have q5 := byt_cell HR.out.1 (i := 5) (by have := HR.out.2.1; omega)
        rw [HBE.out] at q4 q5
        have q4 : wr.cell? ⟨g, o1 + 4, none⟩ = some (.int .u8 (lo r.2.1)) := q4
        have q5 : wr.cell? ⟨g, o1 + 5, none⟩ = some (.int .u8 (lo r.2.2.1)) := q5
        have l4 : 4 < m1 := by omega
        have l5 : 5 < m1 := by omega
        have HB0 : Hid (Blk bb BT b1 wr) := Lib.hid HR.out.2.2.2.2.2.2.1
        have HL0 : Hid (Below B w wr) := Lib.hid HR.out.2.2.2.2.2.2.2.2.2.2.1
        have HG0 : Hid (wr.grownBy wr (some bb)) := Lib.hid (ItE.gself wr _)
        have hB6 : 600 ≤ b1.length := by rw [HR.out.2.2.2.2.2.2.2.2.1]; exact HP.out.2.2.2.2.2.2.1
        go_wp2_with fail
        refine (HU.out _ 0 _ _ _ (42) (by first | exact HL0.out) (by omega) (by omega) (by omega) (by rw [HBE.out]; exact hw0)).mono ?_
        rintro e w' ⟨rfl, rfl⟩
        go_upto_region 12 with (fail)
        obtain ⟨W1, hW⟩ : ∃ X, X = (wr).drew := ⟨_, rfl⟩
        have HB1 : Hid (Blk bb BT (b1) W1) := Lib.hid (by rw [hW]; exact HB0.out)
        have HL1 : Hid (Below B w W1) := Lib.hid (by rw [hW]; exact (Below.drew HL0.out))
        have HG1 : Hid (wr.grownBy W1 (some bb)) := Lib.hid (by rw [hW]; exact (gdrew HG0.out))
        rw [← hW]
        clear hW HB0 HL0 HG0
        obtain ⟨u1, ku⟩ := cell_ex HB1.out (idx := 2 + i * 8) (by first | omega | (simp only [List.length_set]; omega))
        have kf := HB1.out.frozen
        go_wp2_with fail
        refine (HU.out _ 2 _ _ _ (r.1) (by first | exact HL1.out) (by omega) (by omega) (by omega) (by rw [HBE.out]; exact wg)).mono ?_
        rintro e w' ⟨rfl, rfl⟩
        go_upto_region 13 with (fail)
        obtain ⟨W2, hW⟩ : ∃ X, X = ((W1.setCell ⟨bb, 2 + i * 8, none⟩ (.int .u16 r.1))).drew := ⟨_, rfl⟩
        have HB2 : Hid (Blk bb BT ((b1).set (2 + i * 8) (.int .u16 r.1)) W2) := Lib.hid (by rw [hW]; exact (HB1.out.set_ (2 + i * 8) (.int .u16 r.1)))
        have HL2 : Hid (Below B w W2) := Lib.hid (by rw [hW]; exact (Below.drew (HL1.out.setCell (p := ⟨bb, 2 + i * 8, none⟩) hbl (.int .u16 r.1))))
        have HG2 : Hid (wr.grownBy W2 (some bb)) := Lib.hid (by rw [hW]; exact (gdrew (gtr HG1.out (gset W1 bb (2 + i * 8) (.int .u16 r.1)))))
        rw [← hW]
        clear hW HB1 HL1 HG1 ku kf
        have qq := byt_cell (hAt.out _ HL2.out) (i := 4) (by have := HR.out.2.1; omega)
        rw [HBE.out] at qq
        have qq : W2.cell? ⟨g, o1 + 4, none⟩ = some (.int .u8 (lo (r.2.1))) := qq
        obtain ⟨u2, ku⟩ := cell_ex HB2.out (idx := 2 + i * 8 + 1) (by first | omega | (simp only [List.length_set]; omega))
        have kf := HB2.out.frozen
        go_upto_region 17 with (fail)
        obtain ⟨W3, hW⟩ : ∃ X, X = (W2.setCell ⟨bb, 2 + i * 8 + 1, none⟩ (.int .i16 r.2.1)) := ⟨_, rfl⟩
        have HB3 : Hid (Blk bb BT (((b1).set (2 + i * 8) (.int .u16 r.1)).set (2 + i * 8 + 1) (.int .i16 r.2.1)) W3) := Lib.hid (by rw [hW]; exact (HB2.out.set_ (2 + i * 8 + 1) (.int .i16 r.2.1)))
        have HL3 : Hid (Below B w W3) := Lib.hid (by rw [hW]; exact (HL2.out.setCell (p := ⟨bb, 2 + i * 8 + 1, none⟩) hbl (.int .i16 r.2.1)))
        have HG3 : Hid (wr.grownBy W3 (some bb)) := Lib.hid (by rw [hW]; exact (gtr HG2.out (gset W2 bb (2 + i * 8 + 1) (.int .i16 r.2.1))))
        rw [← hW]
        clear hW HB2 HL2 HG2 ku kf qq
        have qq := byt_cell (hAt.out _ HL3.out) (i := 5) (by have := HR.out.2.1; omega)
        rw [HBE.out] at qq
        have qq : W3.cell? ⟨g, o1 + 5, none⟩ = some (.int .u8 (lo (r.2.2.1))) := qq
        obtain ⟨u3, ku⟩ := cell_ex HB3.out (idx := 2 + i * 8 + 2) (by first | omega | (simp only [List.length_set]; omega))
        have kf := HB3.out.frozen
        go_upto_region 18 with (fail)
        obtain ⟨W4, hW⟩ : ∃ X, X = (W3.setCell ⟨bb, 2 + i * 8 + 2, none⟩ (.int .i16 r.2.2.1)) := ⟨_, rfl⟩
        have HB4 : Hid (Blk bb BT ((((b1).set (2 + i * 8) (.int .u16 r.1)).set (2 + i * 8 + 1) (.int .i16 r.2.1)).set (2 + i * 8 + 2) (.int .i16 r.2.2.1)) W4) := Lib.hid (by rw [hW]; exact (HB3.out.set_ (2 + i * 8 + 2) (.int .i16 r.2.2.1)))
        have HL4 : Hid (Below B w W4) := Lib.hid (by rw [hW]; exact (HL3.out.setCell (p := ⟨bb, 2 + i * 8 + 2, none⟩) hbl (.int .i16 r.2.2.1)))
        have HG4 : Hid (wr.grownBy W4 (some bb)) := Lib.hid (by rw [hW]; exact (gtr HG3.out (gset W3 bb (2 + i * 8 + 2) (.int .i16 r.2.2.1))))
        rw [← hW]
        clear hW HB3 HL3 HG3 ku kf qq
        obtain ⟨u4, ku⟩ := cell_ex HB4.out (idx := 2 + i * 8 + 3) (by first | omega | (simp only [List.length_set]; omega))
        have kf := HB4.out.frozen
        go_upto_region 31 with (fail)
        obtain ⟨W5, hW⟩ : ∃ X, X = (W4.setCell ⟨bb, 2 + i * 8 + 3, none⟩ (.bool true)) := ⟨_, rfl⟩
        have HB5 : Hid (Blk bb BT (((((b1).set (2 + i * 8) (.int .u16 r.1)).set (2 + i * 8 + 1) (.int .i16 r.2.1)).set (2 + i * 8 + 2) (.int .i16 r.2.2.1)).set (2 + i * 8 + 3) (.bool true)) W5) := Lib.hid (by rw [hW]; exact (HB4.out.set_ (2 + i * 8 + 3) (.bool true)))
        have HL5 : Hid (Below B w W5) := Lib.hid (by rw [hW]; exact (HL4.out.setCell (p := ⟨bb, 2 + i * 8 + 3, none⟩) hbl (.bool true)))
        have HG5 : Hid (wr.grownBy W5 (some bb)) := Lib.hid (by rw [hW]; exact (gtr HG4.out (gset W4 bb (2 + i * 8 + 3) (.bool true))))
        rw [← hW]
        clear hW HB4 HL4 HG4 ku kf
        obtain ⟨u5, ku⟩ := cell_ex HB5.out (idx := 2 + i * 8 + 4) (by first | omega | (simp only [List.length_set]; omega))
        have kf := HB5.out.frozen
        go_wp2_with fail
        refine (HU.out _ 6 _ _ _ (hi (r.2.2.2.1 * 4096) * 256 + lo (r.2.2.2.1 * 4096)) (by first | exact HL5.out) (by omega) (by omega) (by omega) (by rw [HBE.out]; rfl)).mono ?_
        rintro e w' ⟨rfl, rfl⟩
        go_upto_region 32 with (fail)
        obtain ⟨W6, hW⟩ : ∃ X, X = ((W5.setCell ⟨bb, 2 + i * 8 + 4, none⟩ (.int .i16 (r.2.2.2.1 * 4096)))).drew := ⟨_, rfl⟩
        have HB6 : Hid (Blk bb BT ((((((b1).set (2 + i * 8) (.int .u16 r.1)).set (2 + i * 8 + 1) (.int .i16 r.2.1)).set (2 + i * 8 + 2) (.int .i16 r.2.2.1)).set (2 + i * 8 + 3) (.bool true)).set (2 + i * 8 + 4) (.int .i16 (r.2.2.2.1 * 4096))) W6) := Lib.hid (by rw [hW]; exact (HB5.out.set_ (2 + i * 8 + 4) (.int .i16 (r.2.2.2.1 * 4096))))
        have HL6 : Hid (Below B w W6) := Lib.hid (by rw [hW]; exact (Below.drew (HL5.out.setCell (p := ⟨bb, 2 + i * 8 + 4, none⟩) hbl (.int .i16 (r.2.2.2.1 * 4096)))))
        have HG6 : Hid (wr.grownBy W6 (some bb)) := Lib.hid (by rw [hW]; exact (gdrew (gtr HG5.out (gset W5 bb (2 + i * 8 + 4) (.int .i16 (r.2.2.2.1 * 4096))))))
        rw [← hW]
        clear hW HB5 HL5 HG5 ku kf
        obtain ⟨u6, ku⟩ := cell_ex HB6.out (idx := 2 + i * 8 + 5) (by first | omega | (simp only [List.length_set]; omega))
        have kf := HB6.out.frozen
        go_upto_region 33 with (fail)
        obtain ⟨W7, hW⟩ : ∃ X, X = (W6.setCell ⟨bb, 2 + i * 8 + 5, none⟩ (.int .i16 0)) := ⟨_, rfl⟩
        have HB7 : Hid (Blk bb BT (((((((b1).set (2 + i * 8) (.int .u16 r.1)).set (2 + i * 8 + 1) (.int .i16 r.2.1)).set (2 + i * 8 + 2) (.int .i16 r.2.2.1)).set (2 + i * 8 + 3) (.bool true)).set (2 + i * 8 + 4) (.int .i16 (r.2.2.2.1 * 4096))).set (2 + i * 8 + 5) (.int .i16 0)) W7) := Lib.hid (by rw [hW]; exact (HB6.out.set_ (2 + i * 8 + 5) (.int .i16 0)))
        have HL7 : Hid (Below B w W7) := Lib.hid (by rw [hW]; exact (HL6.out.setCell (p := ⟨bb, 2 + i * 8 + 5, none⟩) hbl (.int .i16 0)))
        have HG7 : Hid (wr.grownBy W7 (some bb)) := Lib.hid (by rw [hW]; exact (gtr HG6.out (gset W6 bb (2 + i * 8 + 5) (.int .i16 0))))
        rw [← hW]
        clear hW HB6 HL6 HG6 ku kf
        obtain ⟨u7, ku⟩ := cell_ex HB7.out (idx := 2 + i * 8 + 6) (by first | omega | (simp only [List.length_set]; omega))
        have kf := HB7.out.frozen
        go_upto_region 34 with (fail)
        obtain ⟨W8, hW⟩ : ∃ X, X = (W7.setCell ⟨bb, 2 + i * 8 + 6, none⟩ (.int .i16 0)) := ⟨_, rfl⟩
        have HB8 : Hid (Blk bb BT ((((((((b1).set (2 + i * 8) (.int .u16 r.1)).set (2 + i * 8 + 1) (.int .i16 r.2.1)).set (2 + i * 8 + 2) (.int .i16 r.2.2.1)).set (2 + i * 8 + 3) (.bool true)).set (2 + i * 8 + 4) (.int .i16 (r.2.2.2.1 * 4096))).set (2 + i * 8 + 5) (.int .i16 0)).set (2 + i * 8 + 6) (.int .i16 0)) W8) := Lib.hid (by rw [hW]; exact (HB7.out.set_ (2 + i * 8 + 6) (.int .i16 0)))
        have HL8 : Hid (Below B w W8) := Lib.hid (by rw [hW]; exact (HL7.out.setCell (p := ⟨bb, 2 + i * 8 + 6, none⟩) hbl (.int .i16 0)))
        have HG8 : Hid (wr.grownBy W8 (some bb)) := Lib.hid (by rw [hW]; exact (gtr HG7.out (gset W7 bb (2 + i * 8 + 6) (.int .i16 0))))
        rw [← hW]
        clear hW HB7 HL7 HG7 ku kf
        have k4 : W8.cell? ⟨bb, 2 + i * 8 + 4, none⟩ = some (.int .i16 (r.2.2.2.1 * 4096)) := HB8.out.cell (by rw [List.getElem?_set_ne (by omega), List.getElem?_set_ne (by omega), List.getElem?_set_self (by simp only [List.length_set]; omega)])
        obtain ⟨u8, ku⟩ := cell_ex HB8.out (idx := 2 + i * 8 + 7) (by first | omega | (simp only [List.length_set]; omega))
        have kf := HB8.out.frozen
        go_upto_region 35 with (fail)
        obtain ⟨W9, hW⟩ : ∃ X, X = (W8.setCell ⟨bb, 2 + i * 8 + 7, none⟩ (.int .i16 (r.2.2.2.1 * 4096))) := ⟨_, rfl⟩
        have HB9 : Hid (Blk bb BT (((((((((b1).set (2 + i * 8) (.int .u16 r.1)).set (2 + i * 8 + 1) (.int .i16 r.2.1)).set (2 + i * 8 + 2) (.int .i16 r.2.2.1)).set (2 + i * 8 + 3) (.bool true)).set (2 + i * 8 + 4) (.int .i16 (r.2.2.2.1 * 4096))).set (2 + i * 8 + 5) (.int .i16 0)).set (2 + i * 8 + 6) (.int .i16 0)).set (2 + i * 8 + 7) (.int .i16 (r.2.2.2.1 * 4096))) W9) := Lib.hid (by rw [hW]; exact (HB8.out.set_ (2 + i * 8 + 7) (.int .i16 (r.2.2.2.1 * 4096))))
        have HL9 : Hid (Below B w W9) := Lib.hid (by rw [hW]; exact (HL8.out.setCell (p := ⟨bb, 2 + i * 8 + 7, none⟩) hbl (.int .i16 (r.2.2.2.1 * 4096))))
        have HG9 : Hid (wr.grownBy W9 (some bb)) := Lib.hid (by rw [hW]; exact (gtr HG8.out (gset W8 bb (2 + i * 8 + 7) (.int .i16 (r.2.2.2.1 * 4096)))))
        rw [← hW]
        clear hW HB8 HL8 HG8 ku kf k4
        have hst := stk_lay (ht := true) (xx := 0) (yy := 0) (c := [.int .u16 r.1, .int .i16 r.2.1, .int .i16 r.2.2.1, .bool true, .int .i16 (r.2.2.2.1 * 4096), .int .i16 0, .int .i16 0, .int .i16 (r.2.2.2.1 * 4096)]) HR.out.2.2.2.2.2.2.2.2.2.1 (by rw [HR.out.2.2.2.2.2.2.2.2.1]; have := HP.out.2.2.2.2.2.2.1; omega) (by simp) (by rw [HR.out.2.2.2.2.2.2.2.2.2.2.2.1]; rfl) (by rw [HR.out.2.2.2.2.2.2.2.2.2.2.2.1]; rfl) (by rw [HR.out.2.2.2.2.2.2.2.2.2.2.2.1]; rfl) rfl (fun _ => ⟨rfl, by rw [HR.out.2.2.2.2.2.2.2.2.2.2.2.1]; rfl, rfl, rfl, by rw [HR.out.2.2.2.2.2.2.2.2.2.2.2.1, ← HR.out.2.2.2.2.2.2.2.2.2.2.2.2.2.2.2.2.1 (by first | rfl | trivial)]; rfl⟩) (fun h => by cases h)
        have hl0 : (lay b1 (2 + i * 8) [.int .u16 r.1, .int .i16 r.2.1, .int .i16 r.2.2.1, .bool true, .int .i16 (r.2.2.2.1 * 4096), .int .i16 0, .int .i16 0, .int .i16 (r.2.2.2.1 * 4096)])[0]? = bd[0]? := by rw [lay_out _ _ _ _ (.inl (by omega))]; exact HR.out.2.2.2.2.2.2.2.1
        have hl1 : (lay b1 (2 + i * 8) [.int .u16 r.1, .int .i16 r.2.1, .int .i16 r.2.2.1, .bool true, .int .i16 (r.2.2.2.1 * 4096), .int .i16 0, .int .i16 0, .int .i16 (r.2.2.2.1 * 4096)])[1]? = some v1 := by rw [lay_out _ _ _ _ (.inl (by omega))]; exact HR.out.2.2.2.2.2.2.2.2.2.2.2.2.2.2.2.2.2.1
        have hll : (lay b1 (2 + i * 8) [.int .u16 r.1, .int .i16 r.2.1, .int .i16 r.2.2.1, .bool true, .int .i16 (r.2.2.2.1 * 4096), .int .i16 0, .int .i16 0, .int .i16 (r.2.2.2.1 * 4096)]).length = bd.length := by rw [lay_len]; exact HR.out.2.2.2.2.2.2.2.2.1
        have hbw : Blk bb BT (lay b1 (2 + i * 8) [.int .u16 r.1, .int .i16 r.2.1, .int .i16 r.2.2.1, .bool true, .int .i16 (r.2.2.2.1 * 4096), .int .i16 0, .int .i16 0, .int .i16 (r.2.2.2.1 * 4096)]) W9 := HB9.out
        have hsg := (HR.out.2.2.2.2.2.2.2.2.2.2.2.2.2.2.2.2.2.2.1).grown HR.out.2.2.2.2.2.2.1 (by decide) HG9.out
        have HST := Lib.hid (And.intro hst (And.intro hl0 (And.intro hl1 (And.intro hll (And.intro hbw hsg)))))
        clear hst hl0 hl1 hll hbw hsg
        go_wp2_with fail
        go_roundg (n - (i + 1))
        case rel => exact ⟨i + 1, o1 + 6 + 2, m1 - 6 - 2, c1 - 6 - 2, tl, lay b1 (2 + i * 8) [.int .u16 r.1, .int .i16 r.2.1, .int .i16 r.2.2.1, .bool true, .int .i16 (r.2.2.2.1 * 4096), .int .i16 0, .int .i16 0, .int .i16 (r.2.2.2.1 * 4096)], rfl, rfl, by go_num, hin2, fun j u hu => (by
          have h := hAt.out _ HL9.out (j + 8) u (by rw [HBE.out]; exact hu)
          rw [show o1 + 6 + 2 + j = o1 + (j + 8) from by omega]
          exact h), by rw [HR.out.2.2.2.2.2.2.2.2.2.2.2.2.1]; exact HR.out.2.2.2.2.1 (by first | rfl | trivial), by have := HML.out; omega, by omega, by omega, fun x hx => HR.out.2.2.2.2.2.1 x (by rw [HBE.out]; simp [hx]), ⟨HST.out.2.2.2.2.1, hbl, v1, HST.out.2.2.1, HST.out.2.2.2.2.2⟩, HST.out.2.1, HST.out.2.2.2.1, HST.out.1, HL9.out⟩
        case measure => omega
    · as_aux_lemma =>
        have hbs : bs = words [98, r.1] ++ dxy true r ++ scl 2 r := HR.out.2.2.2.2.2.2.2.2.2.2.2.2.2.1
        have hbe : p1 = hi 98 :: lo 98 :: hi r.1 :: lo r.1 :: lo r.2.1 :: lo r.2.2.1 :: hi (r.2.2.2.1 * 4096) :: lo (r.2.2.2.1 * 4096) :: hi (r.2.2.2.2 * 4096) :: lo (r.2.2.2.2 * 4096) :: tl := by rw [HR.out.2.2.1, hbs]; rfl
        have hm1 : m1 = 10 + tl.length := by rw [HR.out.2.1, hbe]; simp; omega
        have HBE := Lib.hid hbe
        have HML := Lib.hid hm1
        have hw0 : hi 98 * 256 + lo 98 = 98 := by decide
        have htl := HR.out.2.2.2.2.2.2.2.2.2.2.2.2.2.2.2.2.2.2.2.2 (by first | rfl | trivial)
        have hin2 := HR.out.2.2.2.2.2.2.2.2.2.2.2.2.2.2.2.2.2.2.2.1 (by first | rfl | trivial)
        have hmt : 10 ≤ m1 := by omega
        have hmt2 : 10 < m1 := by omega
        clear hbs hbe hm1 htl
        have fb1 : (bits BinOp.and IntKind.u16 98 1 == 0) = true := by decide
        have fb2 : (bits BinOp.and IntKind.u16 98 2 == 0) = false := by decide
        have fb200 : (bits BinOp.and IntKind.u16 98 200 != 0) = true := by decide
        have fb8 : (bits BinOp.and IntKind.u16 98 8 != 0) = false := by decide
        have fb64 : (bits BinOp.and IntKind.u16 98 64 != 0) = true := by decide
        have fb128 : (bits BinOp.and IntKind.u16 98 128 != 0) = false := by decide
        have fb32 : (bits BinOp.and IntKind.u16 98 32 == 0) = false := by decide
        have n2 : ¬ c1 = 2 := by omega
        have z2 : (2 : Int) ≤ (c1 : Int) := by omega
        have n6 : ¬ c1 = 6 := by omega
        have z6 : (6 : Int) ≤ (c1 : Int) := by omega
        have n8 : ¬ c1 = 8 := by omega
        have z8 : (8 : Int) ≤ (c1 : Int) := by omega
        have n10 : ¬ c1 = 10 := by omega
        have z10 : (10 : Int) ≤ (c1 : Int) := by omega
        have y2 : ¬ c1 - 6 = 2 := by omega
        have x2 : (2 : Int) ≤ ((c1 - 6 : Nat) : Int) := by omega
        have y4 : ¬ c1 - 6 = 4 := by omega
        have x4 : (4 : Int) ≤ ((c1 - 6 : Nat) : Int) := by omega
        have la : ¬ ((m1 : Int) < 4) := by omega
        have lb : ¬ ((m1 : Int) < 6) := by omega
        have lc : ¬ (((m1 - 6 : Nat) : Int) < 4) := by omega
        have wi1 : IntKind.u32.wrap ((i : Int) + 1) = (i : Int) + 1 := IntWalk.u32_in _ (by omega)
        have si1 := small_in _ (HR.out.2.2.2.2.2.2.2.2.2.2.2.2.2.2.1 (by first | rfl | trivial)).1
        have si2 := small_in _ (HR.out.2.2.2.2.2.2.2.2.2.2.2.2.2.2.1 (by first | rfl | trivial)).2
        have si3 : IntKind.i16.wrap r.2.1 = r.2.1 := IntWalk.i16_in _ (by omega)
        have si4 : IntKind.i16.wrap r.2.2.1 = r.2.2.1 := IntWalk.i16_in _ (by omega)
        have q4 := byt_cell HR.out.1 (i := 4) (by have := HR.out.2.1; omega)
        have q5 := byt_cell HR.out.1 (i := 5) (by have := HR.out.2.1; omega)
        rw [HBE.out] at q4 q5
        have q4 : wr.cell? ⟨g, o1 + 4, none⟩ = some (.int .u8 (lo r.2.1)) := q4
        have q5 : wr.cell? ⟨g, o1 + 5, none⟩ = some (.int .u8 (lo r.2.2.1)) := q5
        have l4 : 4 < m1 := by omega
        have l5 : 5 < m1 := by omega
        have HB0 : Hid (Blk bb BT b1 wr) := Lib.hid HR.out.2.2.2.2.2.2.1
        have HL0 : Hid (Below B w wr) := Lib.hid HR.out.2.2.2.2.2.2.2.2.2.2.1
        have HG0 : Hid (wr.grownBy wr (some bb)) := Lib.hid (ItE.gself wr _)
        have hB6 : 600 ≤ b1.length := by rw [HR.out.2.2.2.2.2.2.2.2.1]; exact HP.out.2.2.2.2.2.2.1
        go_wp2_with fail
        refine (HU.out _ 0 _ _ _ (98) (by first | exact HL0.out) (by omega) (by omega) (by omega) (by rw [HBE.out]; exact hw0)).mono ?_
        rintro e w' ⟨rfl, rfl⟩
        go_upto_region 12 with (fail)
        obtain ⟨W1, hW⟩ : ∃ X, X = (wr).drew := ⟨_, rfl⟩
        have HB1 : Hid (Blk bb BT (b1) W1) := Lib.hid (by rw [hW]; exact HB0.out)
        have HL1 : Hid (Below B w W1) := Lib.hid (by rw [hW]; exact (Below.drew HL0.out))
        have HG1 : Hid (wr.grownBy W1 (some bb)) := Lib.hid (by rw [hW]; exact (gdrew HG0.out))
        rw [← hW]
        clear hW HB0 HL0 HG0
        obtain ⟨u1, ku⟩ := cell_ex HB1.out (idx := 2 + i * 8) (by first | omega | (simp only [List.length_set]; omega))
        have kf := HB1.out.frozen
        go_wp2_with fail
        refine (HU.out _ 2 _ _ _ (r.1) (by first | exact HL1.out) (by omega) (by omega) (by omega) (by rw [HBE.out]; exact wg)).mono ?_
        rintro e w' ⟨rfl, rfl⟩
        go_upto_region 13 with (fail)
        obtain ⟨W2, hW⟩ : ∃ X, X = ((W1.setCell ⟨bb, 2 + i * 8, none⟩ (.int .u16 r.1))).drew := ⟨_, rfl⟩
        have HB2 : Hid (Blk bb BT ((b1).set (2 + i * 8) (.int .u16 r.1)) W2) := Lib.hid (by rw [hW]; exact (HB1.out.set_ (2 + i * 8) (.int .u16 r.1)))
        have HL2 : Hid (Below B w W2) := Lib.hid (by rw [hW]; exact (Below.drew (HL1.out.setCell (p := ⟨bb, 2 + i * 8, none⟩) hbl (.int .u16 r.1))))
        have HG2 : Hid (wr.grownBy W2 (some bb)) := Lib.hid (by rw [hW]; exact (gdrew (gtr HG1.out (gset W1 bb (2 + i * 8) (.int .u16 r.1)))))
        rw [← hW]
        clear hW HB1 HL1 HG1 ku kf
        have qq := byt_cell (hAt.out _ HL2.out) (i := 4) (by have := HR.out.2.1; omega)
        rw [HBE.out] at qq
        have qq : W2.cell? ⟨g, o1 + 4, none⟩ = some (.int .u8 (lo (r.2.1))) := qq
        obtain ⟨u2, ku⟩ := cell_ex HB2.out (idx := 2 + i * 8 + 1) (by first | omega | (simp only [List.length_set]; omega))
        have kf := HB2.out.frozen
        go_upto_region 17 with (fail)
        obtain ⟨W3, hW⟩ : ∃ X, X = (W2.setCell ⟨bb, 2 + i * 8 + 1, none⟩ (.int .i16 r.2.1)) := ⟨_, rfl⟩
        have HB3 : Hid (Blk bb BT (((b1).set (2 + i * 8) (.int .u16 r.1)).set (2 + i * 8 + 1) (.int .i16 r.2.1)) W3) := Lib.hid (by rw [hW]; exact (HB2.out.set_ (2 + i * 8 + 1) (.int .i16 r.2.1)))
        have HL3 : Hid (Below B w W3) := Lib.hid (by rw [hW]; exact (HL2.out.setCell (p := ⟨bb, 2 + i * 8 + 1, none⟩) hbl (.int .i16 r.2.1)))
        have HG3 : Hid (wr.grownBy W3 (some bb)) := Lib.hid (by rw [hW]; exact (gtr HG2.out (gset W2 bb (2 + i * 8 + 1) (.int .i16 r.2.1))))
        rw [← hW]
        clear hW HB2 HL2 HG2 ku kf qq
        have qq := byt_cell (hAt.out _ HL3.out) (i := 5) (by have := HR.out.2.1; omega)
        rw [HBE.out] at qq
        have qq : W3.cell? ⟨g, o1 + 5, none⟩ = some (.int .u8 (lo (r.2.2.1))) := qq
        obtain ⟨u3, ku⟩ := cell_ex HB3.out (idx := 2 + i * 8 + 2) (by first | omega | (simp only [List.length_set]; omega))
        have kf := HB3.out.frozen
        go_upto_region 18 with (fail)
        obtain ⟨W4, hW⟩ : ∃ X, X = (W3.setCell ⟨bb, 2 + i * 8 + 2, none⟩ (.int .i16 r.2.2.1)) := ⟨_, rfl⟩
        have HB4 : Hid (Blk bb BT ((((b1).set (2 + i * 8) (.int .u16 r.1)).set (2 + i * 8 + 1) (.int .i16 r.2.1)).set (2 + i * 8 + 2) (.int .i16 r.2.2.1)) W4) := Lib.hid (by rw [hW]; exact (HB3.out.set_ (2 + i * 8 + 2) (.int .i16 r.2.2.1)))
        have HL4 : Hid (Below B w W4) := Lib.hid (by rw [hW]; exact (HL3.out.setCell (p := ⟨bb, 2 + i * 8 + 2, none⟩) hbl (.int .i16 r.2.2.1)))
        have HG4 : Hid (wr.grownBy W4 (some bb)) := Lib.hid (by rw [hW]; exact (gtr HG3.out (gset W3 bb (2 + i * 8 + 2) (.int .i16 r.2.2.1))))
        rw [← hW]
        clear hW HB3 HL3 HG3 ku kf qq
        obtain ⟨u4, ku⟩ := cell_ex HB4.out (idx := 2 + i * 8 + 3) (by first | omega | (simp only [List.length_set]; omega))
        have kf := HB4.out.frozen
        go_upto_region 39 with (fail)
        obtain ⟨W5, hW⟩ : ∃ X, X = (W4.setCell ⟨bb, 2 + i * 8 + 3, none⟩ (.bool true)) := ⟨_, rfl⟩
        have HB5 : Hid (Blk bb BT (((((b1).set (2 + i * 8) (.int .u16 r.1)).set (2 + i * 8 + 1) (.int .i16 r.2.1)).set (2 + i * 8 + 2) (.int .i16 r.2.2.1)).set (2 + i * 8 + 3) (.bool true)) W5) := Lib.hid (by rw [hW]; exact (HB4.out.set_ (2 + i * 8 + 3) (.bool true)))
        have HL5 : Hid (Below B w W5) := Lib.hid (by rw [hW]; exact (HL4.out.setCell (p := ⟨bb, 2 + i * 8 + 3, none⟩) hbl (.bool true)))
        have HG5 : Hid (wr.grownBy W5 (some bb)) := Lib.hid (by rw [hW]; exact (gtr HG4.out (gset W4 bb (2 + i * 8 + 3) (.bool true))))
        rw [← hW]
        clear hW HB4 HL4 HG4 ku kf
        obtain ⟨u5, ku⟩ := cell_ex HB5.out (idx := 2 + i * 8 + 4) (by first | omega | (simp only [List.length_set]; omega))
        have kf := HB5.out.frozen
        go_wp2_with fail
        refine (HU.out _ 6 _ _ _ (hi (r.2.2.2.1 * 4096) * 256 + lo (r.2.2.2.1 * 4096)) (by first | exact HL5.out) (by omega) (by omega) (by omega) (by rw [HBE.out]; rfl)).mono ?_
        rintro e w' ⟨rfl, rfl⟩
        go_upto_region 40 with (fail)
        obtain ⟨W6, hW⟩ : ∃ X, X = ((W5.setCell ⟨bb, 2 + i * 8 + 4, none⟩ (.int .i16 (r.2.2.2.1 * 4096)))).drew := ⟨_, rfl⟩
        have HB6 : Hid (Blk bb BT ((((((b1).set (2 + i * 8) (.int .u16 r.1)).set (2 + i * 8 + 1) (.int .i16 r.2.1)).set (2 + i * 8 + 2) (.int .i16 r.2.2.1)).set (2 + i * 8 + 3) (.bool true)).set (2 + i * 8 + 4) (.int .i16 (r.2.2.2.1 * 4096))) W6) := Lib.hid (by rw [hW]; exact (HB5.out.set_ (2 + i * 8 + 4) (.int .i16 (r.2.2.2.1 * 4096))))
        have HL6 : Hid (Below B w W6) := Lib.hid (by rw [hW]; exact (Below.drew (HL5.out.setCell (p := ⟨bb, 2 + i * 8 + 4, none⟩) hbl (.int .i16 (r.2.2.2.1 * 4096)))))
        have HG6 : Hid (wr.grownBy W6 (some bb)) := Lib.hid (by rw [hW]; exact (gdrew (gtr HG5.out (gset W5 bb (2 + i * 8 + 4) (.int .i16 (r.2.2.2.1 * 4096))))))
        rw [← hW]
        clear hW HB5 HL5 HG5 ku kf
        obtain ⟨u6, ku⟩ := cell_ex HB6.out (idx := 2 + i * 8 + 5) (by first | omega | (simp only [List.length_set]; omega))
        have kf := HB6.out.frozen
        go_upto_region 41 with (fail)
        obtain ⟨W7, hW⟩ : ∃ X, X = (W6.setCell ⟨bb, 2 + i * 8 + 5, none⟩ (.int .i16 0)) := ⟨_, rfl⟩
        have HB7 : Hid (Blk bb BT (((((((b1).set (2 + i * 8) (.int .u16 r.1)).set (2 + i * 8 + 1) (.int .i16 r.2.1)).set (2 + i * 8 + 2) (.int .i16 r.2.2.1)).set (2 + i * 8 + 3) (.bool true)).set (2 + i * 8 + 4) (.int .i16 (r.2.2.2.1 * 4096))).set (2 + i * 8 + 5) (.int .i16 0)) W7) := Lib.hid (by rw [hW]; exact (HB6.out.set_ (2 + i * 8 + 5) (.int .i16 0)))
        have HL7 : Hid (Below B w W7) := Lib.hid (by rw [hW]; exact (HL6.out.setCell (p := ⟨bb, 2 + i * 8 + 5, none⟩) hbl (.int .i16 0)))
        have HG7 : Hid (wr.grownBy W7 (some bb)) := Lib.hid (by rw [hW]; exact (gtr HG6.out (gset W6 bb (2 + i * 8 + 5) (.int .i16 0))))
        rw [← hW]
        clear hW HB6 HL6 HG6 ku kf
        obtain ⟨u7, ku⟩ := cell_ex HB7.out (idx := 2 + i * 8 + 6) (by first | omega | (simp only [List.length_set]; omega))
        have kf := HB7.out.frozen
        go_upto_region 42 with (fail)
        obtain ⟨W8, hW⟩ : ∃ X, X = (W7.setCell ⟨bb, 2 + i * 8 + 6, none⟩ (.int .i16 0)) := ⟨_, rfl⟩
        have HB8 : Hid (Blk bb BT ((((((((b1).set (2 + i * 8) (.int .u16 r.1)).set (2 + i * 8 + 1) (.int .i16 r.2.1)).set (2 + i * 8 + 2) (.int .i16 r.2.2.1)).set (2 + i * 8 + 3) (.bool true)).set (2 + i * 8 + 4) (.int .i16 (r.2.2.2.1 * 4096))).set (2 + i * 8 + 5) (.int .i16 0)).set (2 + i * 8 + 6) (.int .i16 0)) W8) := Lib.hid (by rw [hW]; exact (HB7.out.set_ (2 + i * 8 + 6) (.int .i16 0)))
        have HL8 : Hid (Below B w W8) := Lib.hid (by rw [hW]; exact (HL7.out.setCell (p := ⟨bb, 2 + i * 8 + 6, none⟩) hbl (.int .i16 0)))
        have HG8 : Hid (wr.grownBy W8 (some bb)) := Lib.hid (by rw [hW]; exact (gtr HG7.out (gset W7 bb (2 + i * 8 + 6) (.int .i16 0))))
        rw [← hW]
        clear hW HB7 HL7 HG7 ku kf
        obtain ⟨u8, ku⟩ := cell_ex HB8.out (idx := 2 + i * 8 + 7) (by first | omega | (simp only [List.length_set]; omega))
        have kf := HB8.out.frozen
        go_wp2_with fail
        refine (HU.out _ 8 _ _ _ (hi (r.2.2.2.2 * 4096) * 256 + lo (r.2.2.2.2 * 4096)) (by first | exact HL8.out) (by omega) (by omega) (by omega) (by rw [HBE.out]; rfl)).mono ?_
        rintro e w' ⟨rfl, rfl⟩
        go_upto_region 43 with (fail)
        obtain ⟨W9, hW⟩ : ∃ X, X = ((W8.setCell ⟨bb, 2 + i * 8 + 7, none⟩ (.int .i16 (r.2.2.2.2 * 4096)))).drew := ⟨_, rfl⟩
        have HB9 : Hid (Blk bb BT (((((((((b1).set (2 + i * 8) (.int .u16 r.1)).set (2 + i * 8 + 1) (.int .i16 r.2.1)).set (2 + i * 8 + 2) (.int .i16 r.2.2.1)).set (2 + i * 8 + 3) (.bool true)).set (2 + i * 8 + 4) (.int .i16 (r.2.2.2.1 * 4096))).set (2 + i * 8 + 5) (.int .i16 0)).set (2 + i * 8 + 6) (.int .i16 0)).set (2 + i * 8 + 7) (.int .i16 (r.2.2.2.2 * 4096))) W9) := Lib.hid (by rw [hW]; exact (HB8.out.set_ (2 + i * 8 + 7) (.int .i16 (r.2.2.2.2 * 4096))))
        have HL9 : Hid (Below B w W9) := Lib.hid (by rw [hW]; exact (Below.drew (HL8.out.setCell (p := ⟨bb, 2 + i * 8 + 7, none⟩) hbl (.int .i16 (r.2.2.2.2 * 4096)))))
        have HG9 : Hid (wr.grownBy W9 (some bb)) := Lib.hid (by rw [hW]; exact (gdrew (gtr HG8.out (gset W8 bb (2 + i * 8 + 7) (.int .i16 (r.2.2.2.2 * 4096))))))
        rw [← hW]
        clear hW HB8 HL8 HG8 ku kf
        have hst := stk_lay (ht := true) (xx := 0) (yy := 0) (c := [.int .u16 r.1, .int .i16 r.2.1, .int .i16 r.2.2.1, .bool true, .int .i16 (r.2.2.2.1 * 4096), .int .i16 0, .int .i16 0, .int .i16 (r.2.2.2.2 * 4096)]) HR.out.2.2.2.2.2.2.2.2.2.1 (by rw [HR.out.2.2.2.2.2.2.2.2.1]; have := HP.out.2.2.2.2.2.2.1; omega) (by simp) (by rw [HR.out.2.2.2.2.2.2.2.2.2.2.2.1]; rfl) (by rw [HR.out.2.2.2.2.2.2.2.2.2.2.2.1]; rfl) (by rw [HR.out.2.2.2.2.2.2.2.2.2.2.2.1]; rfl) rfl (fun _ => ⟨rfl, by rw [HR.out.2.2.2.2.2.2.2.2.2.2.2.1]; rfl, rfl, rfl, by rw [HR.out.2.2.2.2.2.2.2.2.2.2.2.1]; rfl⟩) (fun h => by cases h)
        have hl0 : (lay b1 (2 + i * 8) [.int .u16 r.1, .int .i16 r.2.1, .int .i16 r.2.2.1, .bool true, .int .i16 (r.2.2.2.1 * 4096), .int .i16 0, .int .i16 0, .int .i16 (r.2.2.2.2 * 4096)])[0]? = bd[0]? := by rw [lay_out _ _ _ _ (.inl (by omega))]; exact HR.out.2.2.2.2.2.2.2.1
        have hl1 : (lay b1 (2 + i * 8) [.int .u16 r.1, .int .i16 r.2.1, .int .i16 r.2.2.1, .bool true, .int .i16 (r.2.2.2.1 * 4096), .int .i16 0, .int .i16 0, .int .i16 (r.2.2.2.2 * 4096)])[1]? = some v1 := by rw [lay_out _ _ _ _ (.inl (by omega))]; exact HR.out.2.2.2.2.2.2.2.2.2.2.2.2.2.2.2.2.2.1
        have hll : (lay b1 (2 + i * 8) [.int .u16 r.1, .int .i16 r.2.1, .int .i16 r.2.2.1, .bool true, .int .i16 (r.2.2.2.1 * 4096), .int .i16 0, .int .i16 0, .int .i16 (r.2.2.2.2 * 4096)]).length = bd.length := by rw [lay_len]; exact HR.out.2.2.2.2.2.2.2.2.1
        have hbw : Blk bb BT (lay b1 (2 + i * 8) [.int .u16 r.1, .int .i16 r.2.1, .int .i16 r.2.2.1, .bool true, .int .i16 (r.2.2.2.1 * 4096), .int .i16 0, .int .i16 0, .int .i16 (r.2.2.2.2 * 4096)]) W9 := HB9.out
        have hsg := (HR.out.2.2.2.2.2.2.2.2.2.2.2.2.2.2.2.2.2.2.1).grown HR.out.2.2.2.2.2.2.1 (by decide) HG9.out
        have HST := Lib.hid (And.intro hst (And.intro hl0 (And.intro hl1 (And.intro hll (And.intro hbw hsg)))))
        clear hst hl0 hl1 hll hbw hsg
        go_wp2_with fail
        go_roundg (n - (i + 1))
        case rel => exact ⟨i + 1, o1 + 6 + 4, m1 - 6 - 4, c1 - 6 - 4, tl, lay b1 (2 + i * 8) [.int .u16 r.1, .int .i16 r.2.1, .int .i16 r.2.2.1, .bool true, .int .i16 (r.2.2.2.1 * 4096), .int .i16 0, .int .i16 0, .int .i16 (r.2.2.2.2 * 4096)], rfl, rfl, by go_num, hin2, fun j u hu => (by
          have h := hAt.out _ HL9.out (j + 10) u (by rw [HBE.out]; exact hu)
          rw [show o1 + 6 + 4 + j = o1 + (j + 10) from by omega]
          exact h), by rw [HR.out.2.2.2.2.2.2.2.2.2.2.2.2.1]; exact HR.out.2.2.2.2.1 (by first | rfl | trivial), by have := HML.out; omega, by omega, by omega, fun x hx => HR.out.2.2.2.2.2.1 x (by rw [HBE.out]; simp [hx]), ⟨HST.out.2.2.2.2.1, hbl, v1, HST.out.2.2.1, HST.out.2.2.2.2.2⟩, HST.out.2.1, HST.out.2.2.2.1, HST.out.1, HL9.out⟩
        case measure => omega
    · as_aux_lemma =>
        have hbs : bs = words [162, r.1] ++ dxy true r ++ scl 3 r := HR.out.2.2.2.2.2.2.2.2.2.2.2.2.2.1
        have hbe : p1 = hi 162 :: lo 162 :: hi r.1 :: lo r.1 :: lo r.2.1 :: lo r.2.2.1 :: hi (r.2.2.2.1 * 4096) :: lo (r.2.2.2.1 * 4096) :: hi 0 :: lo 0 :: hi 0 :: lo 0 :: hi (r.2.2.2.2 * 4096) :: lo (r.2.2.2.2 * 4096) :: tl := by rw [HR.out.2.2.1, hbs]; rfl
        have hm1 : m1 = 14 + tl.length := by rw [HR.out.2.1, hbe]; simp; omega
        have HBE := Lib.hid hbe
        have HML := Lib.hid hm1
        have hw0 : hi 162 * 256 + lo 162 = 162 := by decide
        have htl := HR.out.2.2.2.2.2.2.2.2.2.2.2.2.2.2.2.2.2.2.2.2 (by first | rfl | trivial)
        have hin2 := HR.out.2.2.2.2.2.2.2.2.2.2.2.2.2.2.2.2.2.2.2.1 (by first | rfl | trivial)
        have hmt : 14 ≤ m1 := by omega
        have hmt2 : 14 < m1 := by omega
        clear hbs hbe hm1 htl
        have fb1 : (bits BinOp.and IntKind.u16 162 1 == 0) = true := by decide
        have fb2 : (bits BinOp.and IntKind.u16 162 2 == 0) = false := by decide
        have fb200 : (bits BinOp.and IntKind.u16 162 200 != 0) = true := by decide
        have fb8 : (bits BinOp.and IntKind.u16 162 8 != 0) = false := by decide
        have fb64 : (bits BinOp.and IntKind.u16 162 64 != 0) = false := by decide
        have fb128 : (bits BinOp.and IntKind.u16 162 128 != 0) = true := by decide
        have fb32 : (bits BinOp.and IntKind.u16 162 32 == 0) = false := by decide
        have n2 : ¬ c1 = 2 := by omega
        have z2 : (2 : Int) ≤ (c1 : Int) := by omega
        have n6 : ¬ c1 = 6 := by omega
        have z6 : (6 : Int) ≤ (c1 : Int) := by omega
        have n8 : ¬ c1 = 8 := by omega
        have z8 : (8 : Int) ≤ (c1 : Int) := by omega
        have n10 : ¬ c1 = 10 := by omega
        have z10 : (10 : Int) ≤ (c1 : Int) := by omega
        have n12 : ¬ c1 = 12 := by omega
        have z12 : (12 : Int) ≤ (c1 : Int) := by omega
        have n14 : ¬ c1 = 14 := by omega
        have z14 : (14 : Int) ≤ (c1 : Int) := by omega
        have y2 : ¬ c1 - 6 = 2 := by omega
        have x2 : (2 : Int) ≤ ((c1 - 6 : Nat) : Int) := by omega
        have y4 : ¬ c1 - 6 = 4 := by omega
        have x4 : (4 : Int) ≤ ((c1 - 6 : Nat) : Int) := by omega
        have y6 : ¬ c1 - 6 = 6 := by omega
        have x6 : (6 : Int) ≤ ((c1 - 6 : Nat) : Int) := by omega
        have y8 : ¬ c1 - 6 = 8 := by omega
        have x8 : (8 : Int) ≤ ((c1 - 6 : Nat) : Int) := by omega
        have la : ¬ ((m1 : Int) < 4) := by omega
        have lb : ¬ ((m1 : Int) < 6) := by omega
        have lc : ¬ (((m1 - 6 : Nat) : Int) < 8) := by omega
        have wi1 : IntKind.u32.wrap ((i : Int) + 1) = (i : Int) + 1 := IntWalk.u32_in _ (by omega)
        have si1 := small_in _ (HR.out.2.2.2.2.2.2.2.2.2.2.2.2.2.2.1 (by first | rfl | trivial)).1
        have si2 := small_in _ (HR.out.2.2.2.2.2.2.2.2.2.2.2.2.2.2.1 (by first | rfl | trivial)).2
        have si3 : IntKind.i16.wrap r.2.1 = r.2.1 := IntWalk.i16_in _ (by omega)
        have si4 : IntKind.i16.wrap r.2.2.1 = r.2.2.1 := IntWalk.i16_in _ (by omega)
        have q4 := byt_cell HR.out.1 (i := 4) (by have := HR.out.2.1; omega)
        have q5 := byt_cell HR.out.1 (i := 5) (by have := HR.out.2.1; omega)
        rw [HBE.out] at q4 q5
        have q4 : wr.cell? ⟨g, o1 + 4, none⟩ = some (.int .u8 (lo r.2.1)) := q4
        have q5 : wr.cell? ⟨g, o1 + 5, none⟩ = some (.int .u8 (lo r.2.2.1)) := q5
        have l4 : 4 < m1 := by omega
        have l5 : 5 < m1 := by omega
        have HB0 : Hid (Blk bb BT b1 wr) := Lib.hid HR.out.2.2.2.2.2.2.1
        have HL0 : Hid (Below B w wr) := Lib.hid HR.out.2.2.2.2.2.2.2.2.2.2.1
        have HG0 : Hid (wr.grownBy wr (some bb)) := Lib.hid (ItE.gself wr _)
        have hB6 : 600 ≤ b1.length := by rw [HR.out.2.2.2.2.2.2.2.2.1]; exact HP.out.2.2.2.2.2.2.1
        go_wp2_with fail
        refine (HU.out _ 0 _ _ _ (162) (by first | exact HL0.out) (by omega) (by omega) (by omega) (by rw [HBE.out]; exact hw0)).mono ?_
        rintro e w' ⟨rfl, rfl⟩
        go_upto_region 12 with (fail)
        obtain ⟨W1, hW⟩ : ∃ X, X = (wr).drew := ⟨_, rfl⟩
        have HB1 : Hid (Blk bb BT (b1) W1) := Lib.hid (by rw [hW]; exact HB0.out)
        have HL1 : Hid (Below B w W1) := Lib.hid (by rw [hW]; exact (Below.drew HL0.out))
        have HG1 : Hid (wr.grownBy W1 (some bb)) := Lib.hid (by rw [hW]; exact (gdrew HG0.out))
        rw [← hW]
        clear hW HB0 HL0 HG0
        obtain ⟨u1, ku⟩ := cell_ex HB1.out (idx := 2 + i * 8) (by first | omega | (simp only [List.length_set]; omega))
        have kf := HB1.out.frozen
        go_wp2_with fail
        refine (HU.out _ 2 _ _ _ (r.1) (by first | exact HL1.out) (by omega) (by omega) (by omega) (by rw [HBE.out]; exact wg)).mono ?_
        rintro e w' ⟨rfl, rfl⟩
        go_upto_region 13 with (fail)
        obtain ⟨W2, hW⟩ : ∃ X, X = ((W1.setCell ⟨bb, 2 + i * 8, none⟩ (.int .u16 r.1))).drew := ⟨_, rfl⟩
        have HB2 : Hid (Blk bb BT ((b1).set (2 + i * 8) (.int .u16 r.1)) W2) := Lib.hid (by rw [hW]; exact (HB1.out.set_ (2 + i * 8) (.int .u16 r.1)))
        have HL2 : Hid (Below B w W2) := Lib.hid (by rw [hW]; exact (Below.drew (HL1.out.setCell (p := ⟨bb, 2 + i * 8, none⟩) hbl (.int .u16 r.1))))
        have HG2 : Hid (wr.grownBy W2 (some bb)) := Lib.hid (by rw [hW]; exact (gdrew (gtr HG1.out (gset W1 bb (2 + i * 8) (.int .u16 r.1)))))
        rw [← hW]
        clear hW HB1 HL1 HG1 ku kf
        have qq := byt_cell (hAt.out _ HL2.out) (i := 4) (by have := HR.out.2.1; omega)
        rw [HBE.out] at qq
        have qq : W2.cell? ⟨g, o1 + 4, none⟩ = some (.int .u8 (lo (r.2.1))) := qq
        obtain ⟨u2, ku⟩ := cell_ex HB2.out (idx := 2 + i * 8 + 1) (by first | omega | (simp only [List.length_set]; omega))
        have kf := HB2.out.frozen
        go_upto_region 17 with (fail)
        obtain ⟨W3, hW⟩ : ∃ X, X = (W2.setCell ⟨bb, 2 + i * 8 + 1, none⟩ (.int .i16 r.2.1)) := ⟨_, rfl⟩
        have HB3 : Hid (Blk bb BT (((b1).set (2 + i * 8) (.int .u16 r.1)).set (2 + i * 8 + 1) (.int .i16 r.2.1)) W3) := Lib.hid (by rw [hW]; exact (HB2.out.set_ (2 + i * 8 + 1) (.int .i16 r.2.1)))
        have HL3 : Hid (Below B w W3) := Lib.hid (by rw [hW]; exact (HL2.out.setCell (p := ⟨bb, 2 + i * 8 + 1, none⟩) hbl (.int .i16 r.2.1)))
        have HG3 : Hid (wr.grownBy W3 (some bb)) := Lib.hid (by rw [hW]; exact (gtr HG2.out (gset W2 bb (2 + i * 8 + 1) (.int .i16 r.2.1))))
        rw [← hW]
        clear hW HB2 HL2 HG2 ku kf qq
        have qq := byt_cell (hAt.out _ HL3.out) (i := 5) (by have := HR.out.2.1; omega)
        rw [HBE.out] at qq
        have qq : W3.cell? ⟨g, o1 + 5, none⟩ = some (.int .u8 (lo (r.2.2.1))) := qq
        obtain ⟨u3, ku⟩ := cell_ex HB3.out (idx := 2 + i * 8 + 2) (by first | omega | (simp only [List.length_set]; omega))
        have kf := HB3.out.frozen
        go_upto_region 18 with (fail)
        obtain ⟨W4, hW⟩ : ∃ X, X = (W3.setCell ⟨bb, 2 + i * 8 + 2, none⟩ (.int .i16 r.2.2.1)) := ⟨_, rfl⟩
        have HB4 : Hid (Blk bb BT ((((b1).set (2 + i * 8) (.int .u16 r.1)).set (2 + i * 8 + 1) (.int .i16 r.2.1)).set (2 + i * 8 + 2) (.int .i16 r.2.2.1)) W4) := Lib.hid (by rw [hW]; exact (HB3.out.set_ (2 + i * 8 + 2) (.int .i16 r.2.2.1)))
        have HL4 : Hid (Below B w W4) := Lib.hid (by rw [hW]; exact (HL3.out.setCell (p := ⟨bb, 2 + i * 8 + 2, none⟩) hbl (.int .i16 r.2.2.1)))
        have HG4 : Hid (wr.grownBy W4 (some bb)) := Lib.hid (by rw [hW]; exact (gtr HG3.out (gset W3 bb (2 + i * 8 + 2) (.int .i16 r.2.2.1))))
        rw [← hW]
        clear hW HB3 HL3 HG3 ku kf qq
        obtain ⟨u4, ku⟩ := cell_ex HB4.out (idx := 2 + i * 8 + 3) (by first | omega | (simp only [List.length_set]; omega))
        have kf := HB4.out.frozen
        go_upto_region 47 with (fail)
        obtain ⟨W5, hW⟩ : ∃ X, X = (W4.setCell ⟨bb, 2 + i * 8 + 3, none⟩ (.bool true)) := ⟨_, rfl⟩
        have HB5 : Hid (Blk bb BT (((((b1).set (2 + i * 8) (.int .u16 r.1)).set (2 + i * 8 + 1) (.int .i16 r.2.1)).set (2 + i * 8 + 2) (.int .i16 r.2.2.1)).set (2 + i * 8 + 3) (.bool true)) W5) := Lib.hid (by rw [hW]; exact (HB4.out.set_ (2 + i * 8 + 3) (.bool true)))
        have HL5 : Hid (Below B w W5) := Lib.hid (by rw [hW]; exact (HL4.out.setCell (p := ⟨bb, 2 + i * 8 + 3, none⟩) hbl (.bool true)))
        have HG5 : Hid (wr.grownBy W5 (some bb)) := Lib.hid (by rw [hW]; exact (gtr HG4.out (gset W4 bb (2 + i * 8 + 3) (.bool true))))
        rw [← hW]
        clear hW HB4 HL4 HG4 ku kf
        obtain ⟨u5, ku⟩ := cell_ex HB5.out (idx := 2 + i * 8 + 4) (by first | omega | (simp only [List.length_set]; omega))
        have kf := HB5.out.frozen
        go_wp2_with fail
        refine (HU.out _ 6 _ _ _ (hi (r.2.2.2.1 * 4096) * 256 + lo (r.2.2.2.1 * 4096)) (by first | exact HL5.out) (by omega) (by omega) (by omega) (by rw [HBE.out]; rfl)).mono ?_
        rintro e w' ⟨rfl, rfl⟩
        go_upto_region 48 with (fail)
        obtain ⟨W6, hW⟩ : ∃ X, X = ((W5.setCell ⟨bb, 2 + i * 8 + 4, none⟩ (.int .i16 (r.2.2.2.1 * 4096)))).drew := ⟨_, rfl⟩
        have HB6 : Hid (Blk bb BT ((((((b1).set (2 + i * 8) (.int .u16 r.1)).set (2 + i * 8 + 1) (.int .i16 r.2.1)).set (2 + i * 8 + 2) (.int .i16 r.2.2.1)).set (2 + i * 8 + 3) (.bool true)).set (2 + i * 8 + 4) (.int .i16 (r.2.2.2.1 * 4096))) W6) := Lib.hid (by rw [hW]; exact (HB5.out.set_ (2 + i * 8 + 4) (.int .i16 (r.2.2.2.1 * 4096))))
        have HL6 : Hid (Below B w W6) := Lib.hid (by rw [hW]; exact (Below.drew (HL5.out.setCell (p := ⟨bb, 2 + i * 8 + 4, none⟩) hbl (.int .i16 (r.2.2.2.1 * 4096)))))
        have HG6 : Hid (wr.grownBy W6 (some bb)) := Lib.hid (by rw [hW]; exact (gdrew (gtr HG5.out (gset W5 bb (2 + i * 8 + 4) (.int .i16 (r.2.2.2.1 * 4096))))))
        rw [← hW]
        clear hW HB5 HL5 HG5 ku kf
        obtain ⟨u6, ku⟩ := cell_ex HB6.out (idx := 2 + i * 8 + 5) (by first | omega | (simp only [List.length_set]; omega))
        have kf := HB6.out.frozen
        go_wp2_with fail
        refine (HU.out _ 8 _ _ _ (0) (by first | exact HL6.out) (by omega) (by omega) (by omega) (by rw [HBE.out]; rfl)).mono ?_
        rintro e w' ⟨rfl, rfl⟩
        go_upto_region 49 with (fail)
        obtain ⟨W7, hW⟩ : ∃ X, X = ((W6.setCell ⟨bb, 2 + i * 8 + 5, none⟩ (.int .i16 0))).drew := ⟨_, rfl⟩
        have HB7 : Hid (Blk bb BT (((((((b1).set (2 + i * 8) (.int .u16 r.1)).set (2 + i * 8 + 1) (.int .i16 r.2.1)).set (2 + i * 8 + 2) (.int .i16 r.2.2.1)).set (2 + i * 8 + 3) (.bool true)).set (2 + i * 8 + 4) (.int .i16 (r.2.2.2.1 * 4096))).set (2 + i * 8 + 5) (.int .i16 0)) W7) := Lib.hid (by rw [hW]; exact (HB6.out.set_ (2 + i * 8 + 5) (.int .i16 0)))
        have HL7 : Hid (Below B w W7) := Lib.hid (by rw [hW]; exact (Below.drew (HL6.out.setCell (p := ⟨bb, 2 + i * 8 + 5, none⟩) hbl (.int .i16 0))))
        have HG7 : Hid (wr.grownBy W7 (some bb)) := Lib.hid (by rw [hW]; exact (gdrew (gtr HG6.out (gset W6 bb (2 + i * 8 + 5) (.int .i16 0)))))
        rw [← hW]
        clear hW HB6 HL6 HG6 ku kf
        obtain ⟨u7, ku⟩ := cell_ex HB7.out (idx := 2 + i * 8 + 6) (by first | omega | (simp only [List.length_set]; omega))
        have kf := HB7.out.frozen
        go_wp2_with fail
        refine (HU.out _ 10 _ _ _ (0) (by first | exact HL7.out) (by omega) (by omega) (by omega) (by rw [HBE.out]; rfl)).mono ?_
        rintro e w' ⟨rfl, rfl⟩
        go_upto_region 50 with (fail)
        obtain ⟨W8, hW⟩ : ∃ X, X = ((W7.setCell ⟨bb, 2 + i * 8 + 6, none⟩ (.int .i16 0))).drew := ⟨_, rfl⟩
        have HB8 : Hid (Blk bb BT ((((((((b1).set (2 + i * 8) (.int .u16 r.1)).set (2 + i * 8 + 1) (.int .i16 r.2.1)).set (2 + i * 8 + 2) (.int .i16 r.2.2.1)).set (2 + i * 8 + 3) (.bool true)).set (2 + i * 8 + 4) (.int .i16 (r.2.2.2.1 * 4096))).set (2 + i * 8 + 5) (.int .i16 0)).set (2 + i * 8 + 6) (.int .i16 0)) W8) := Lib.hid (by rw [hW]; exact (HB7.out.set_ (2 + i * 8 + 6) (.int .i16 0)))
        have HL8 : Hid (Below B w W8) := Lib.hid (by rw [hW]; exact (Below.drew (HL7.out.setCell (p := ⟨bb, 2 + i * 8 + 6, none⟩) hbl (.int .i16 0))))
        have HG8 : Hid (wr.grownBy W8 (some bb)) := Lib.hid (by rw [hW]; exact (gdrew (gtr HG7.out (gset W7 bb (2 + i * 8 + 6) (.int .i16 0)))))
        rw [← hW]
        clear hW HB7 HL7 HG7 ku kf
        obtain ⟨u8, ku⟩ := cell_ex HB8.out (idx := 2 + i * 8 + 7) (by first | omega | (simp only [List.length_set]; omega))
        have kf := HB8.out.frozen
        go_wp2_with fail
        refine (HU.out _ 12 _ _ _ (hi (r.2.2.2.2 * 4096) * 256 + lo (r.2.2.2.2 * 4096)) (by first | exact HL8.out) (by omega) (by omega) (by omega) (by rw [HBE.out]; rfl)).mono ?_
        rintro e w' ⟨rfl, rfl⟩
        go_upto_region 51 with (fail)
        obtain ⟨W9, hW⟩ : ∃ X, X = ((W8.setCell ⟨bb, 2 + i * 8 + 7, none⟩ (.int .i16 (r.2.2.2.2 * 4096)))).drew := ⟨_, rfl⟩
        have HB9 : Hid (Blk bb BT (((((((((b1).set (2 + i * 8) (.int .u16 r.1)).set (2 + i * 8 + 1) (.int .i16 r.2.1)).set (2 + i * 8 + 2) (.int .i16 r.2.2.1)).set (2 + i * 8 + 3) (.bool true)).set (2 + i * 8 + 4) (.int .i16 (r.2.2.2.1 * 4096))).set (2 + i * 8 + 5) (.int .i16 0)).set (2 + i * 8 + 6) (.int .i16 0)).set (2 + i * 8 + 7) (.int .i16 (r.2.2.2.2 * 4096))) W9) := Lib.hid (by rw [hW]; exact (HB8.out.set_ (2 + i * 8 + 7) (.int .i16 (r.2.2.2.2 * 4096))))
        have HL9 : Hid (Below B w W9) := Lib.hid (by rw [hW]; exact (Below.drew (HL8.out.setCell (p := ⟨bb, 2 + i * 8 + 7, none⟩) hbl (.int .i16 (r.2.2.2.2 * 4096)))))
        have HG9 : Hid (wr.grownBy W9 (some bb)) := Lib.hid (by rw [hW]; exact (gdrew (gtr HG8.out (gset W8 bb (2 + i * 8 + 7) (.int .i16 (r.2.2.2.2 * 4096))))))
        rw [← hW]
        clear hW HB8 HL8 HG8 ku kf
        have hst := stk_lay (ht := true) (xx := 0) (yy := 0) (c := [.int .u16 r.1, .int .i16 r.2.1, .int .i16 r.2.2.1, .bool true, .int .i16 (r.2.2.2.1 * 4096), .int .i16 0, .int .i16 0, .int .i16 (r.2.2.2.2 * 4096)]) HR.out.2.2.2.2.2.2.2.2.2.1 (by rw [HR.out.2.2.2.2.2.2.2.2.1]; have := HP.out.2.2.2.2.2.2.1; omega) (by simp) (by rw [HR.out.2.2.2.2.2.2.2.2.2.2.2.1]; rfl) (by rw [HR.out.2.2.2.2.2.2.2.2.2.2.2.1]; rfl) (by rw [HR.out.2.2.2.2.2.2.2.2.2.2.2.1]; rfl) rfl (fun _ => ⟨rfl, by rw [HR.out.2.2.2.2.2.2.2.2.2.2.2.1]; rfl, rfl, rfl, by rw [HR.out.2.2.2.2.2.2.2.2.2.2.2.1]; rfl⟩) (fun h => by cases h)
        have hl0 : (lay b1 (2 + i * 8) [.int .u16 r.1, .int .i16 r.2.1, .int .i16 r.2.2.1, .bool true, .int .i16 (r.2.2.2.1 * 4096), .int .i16 0, .int .i16 0, .int .i16 (r.2.2.2.2 * 4096)])[0]? = bd[0]? := by rw [lay_out _ _ _ _ (.inl (by omega))]; exact HR.out.2.2.2.2.2.2.2.1
        have hl1 : (lay b1 (2 + i * 8) [.int .u16 r.1, .int .i16 r.2.1, .int .i16 r.2.2.1, .bool true, .int .i16 (r.2.2.2.1 * 4096), .int .i16 0, .int .i16 0, .int .i16 (r.2.2.2.2 * 4096)])[1]? = some v1 := by rw [lay_out _ _ _ _ (.inl (by omega))]; exact HR.out.2.2.2.2.2.2.2.2.2.2.2.2.2.2.2.2.2.1
        have hll : (lay b1 (2 + i * 8) [.int .u16 r.1, .int .i16 r.2.1, .int .i16 r.2.2.1, .bool true, .int .i16 (r.2.2.2.1 * 4096), .int .i16 0, .int .i16 0, .int .i16 (r.2.2.2.2 * 4096)]).length = bd.length := by rw [lay_len]; exact HR.out.2.2.2.2.2.2.2.2.1
        have hbw : Blk bb BT (lay b1 (2 + i * 8) [.int .u16 r.1, .int .i16 r.2.1, .int .i16 r.2.2.1, .bool true, .int .i16 (r.2.2.2.1 * 4096), .int .i16 0, .int .i16 0, .int .i16 (r.2.2.2.2 * 4096)]) W9 := HB9.out
        have hsg := (HR.out.2.2.2.2.2.2.2.2.2.2.2.2.2.2.2.2.2.2.1).grown HR.out.2.2.2.2.2.2.1 (by decide) HG9.out
        have HST := Lib.hid (And.intro hst (And.intro hl0 (And.intro hl1 (And.intro hll (And.intro hbw hsg)))))
        clear hst hl0 hl1 hll hbw hsg
        go_wp2_with fail
        go_roundg (n - (i + 1))
        case rel => exact ⟨i + 1, o1 + 6 + 8, m1 - 6 - 8, c1 - 6 - 8, tl, lay b1 (2 + i * 8) [.int .u16 r.1, .int .i16 r.2.1, .int .i16 r.2.2.1, .bool true, .int .i16 (r.2.2.2.1 * 4096), .int .i16 0, .int .i16 0, .int .i16 (r.2.2.2.2 * 4096)], rfl, rfl, by go_num, hin2, fun j u hu => (by
          have h := hAt.out _ HL9.out (j + 14) u (by rw [HBE.out]; exact hu)
          rw [show o1 + 6 + 8 + j = o1 + (j + 14) from by omega]
          exact h), by rw [HR.out.2.2.2.2.2.2.2.2.2.2.2.2.1]; exact HR.out.2.2.2.2.1 (by first | rfl | trivial), by have := HML.out; omega, by omega, by omega, fun x hx => HR.out.2.2.2.2.2.1 x (by rw [HBE.out]; simp [hx]), ⟨HST.out.2.2.2.2.1, hbl, v1, HST.out.2.2.1, HST.out.2.2.2.2.2⟩, HST.out.2.1, HST.out.2.2.2.1, HST.out.1, HL9.out⟩
        case measure => omega
end Go.Proofs.YtdeaodgcdacleaaDoor.LdF
