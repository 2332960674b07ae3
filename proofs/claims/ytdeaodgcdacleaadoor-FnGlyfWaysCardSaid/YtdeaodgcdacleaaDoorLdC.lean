/- Contract of the loading of a glyph of contours. -/
import Derived.Test.YtdeaodgcdacleaaDoorLdB
import Derived.Test.YtdeaodgcdacleaaDoorItH
import Derived.Test.YtdeaodgcdacleaaDoorIdxO
import Derived.Test.YtdeaodgcdacleaaDoorRowS
namespace Go.Proofs.YtdeaodgcdacleaaDoor.LdC
open Go.ChangeShapes Go.WideShapes Go.ChangeAt Go.RowKit
open Lst Mem RowG SpecB GlyM IdxB DatE ItA ItB ItC ItE ItF ItG ItH PthA PthC LdA LdB
set_option linter.unusedSimpArgs false
set_option linter.unusedVariables false
def zit : List Value := [.slice none 0 0, .nilIface, .int .i32 0, .int .i32 0, .int .i32 0, .int .i32 0, .int .i32 0, .int .i32 0, .int .i32 0, .int .i32 0, .int .i32 0, .int .i32 0, .int .i16 0, .int .i16 0, .bool false, .int .u8 0, .int .u8 0, .bool false, .bool false, .bool false, .bool false, .bool false, .int .i32 0, .int .i32 0, .int .i32 0, .int .i32 0, .int .i32 0, .int .i32 0, .int .u32 0, .int .i32 0, .int .i32 0, .int .i32 0, .int .i32 0, .int .i32 0, .int .i32 0]
theorem it_zero (w : World) : (zeroValue IT).run Tryd.prog w = .ok (.agg zit.toArray) w := by kernel_rfl
theorem it_info : (Tryd.prog.info? IT).map (·.size) = some 35 := by kernel_rfl
def itc (A : Option Addr) (n c : Nat) (t : It) : Array Value := (t.cs (.slice A n c) .nilIface).toArray
theorem it_one (A : Option Addr) (n c : Nat) (t : It) : (itc A n c t).all (·.oneCell') = true := by
  unfold itc; rw [List.all_toArray]; rfl
/-- the state ahead of the first contour -/
def It0 (fi xi yi fe nc : Int) : It := { fi := fi, xi := xi, yi := yi, ei := 10, pe := -1, fe := fe, c := 0, nc := nc, p := 0, np := 0, x := 0, y := 0, on := false, fl := 0, rp := 0, cg := false, cd := false, v1 := false, v2 := false, v3 := false, a := (0, 0), b := (0, 0), e := (0, 0), op := 0, q0 := (0, 0), q1 := (0, 0), q2 := (0, 0) }
/-- the buffer's box, the steps in it -/
def Buf (w : World) (B bb : Nat) (bc : List Value) (L : List Rec) : Prop := Blk bb BT bc w ∧ B ≤ bb ∧ ∃ v, bc[1]? = some v ∧ Segs w B v L
/-- two boxes are the same but for the steps -/
def Agr (bc bc' : List Value) : Prop := bc'.length = bc.length ∧ ∀ i, i ≠ 1 → bc'[i]? = bc[i]?
theorem Agr.refl (bc : List Value) : Agr bc bc := ⟨rfl, fun _ _ => rfl⟩
theorem Agr.trans {a b c : List Value} (h : Agr a b) (h' : Agr b c) : Agr a c := ⟨h'.1.trans h.1, fun i hi => (h'.2 i hi).trans (h.2 i hi)⟩
theorem Agr.set (bc : List Value) (v : Value) : Agr bc (bc.set 1 v) := ⟨by simp, fun i hi => by rw [List.getElem?_set_ne (by omega)]⟩
/-- the end of a load: these steps more -/
def LoadP (B bb : Nat) (bc : List Value) (L : List Rec) (w : World) (e : Ending) (w' : World) : Prop :=
  e = .returned .nilIface ∧ ∃ bc', Agr bc bc' ∧ Buf w' B bb bc' L ∧ Below B w w'
theorem Buf.below {w w' : World} {B bb : Nat} {bc : List Value} {L : List Rec} (h : Buf w B bb bc L) (hb : Below w.heap.size w w') : Buf w' B bb bc L := by
  obtain ⟨h1, h2, v, h3, h4⟩ := h
  exact ⟨h1.keep hb, h2, v, h3, h4.below hb⟩
theorem Buf.grown {w w' : World} {B bb b : Nat} {bc cs : List Value} {L : List Rec} (h : Buf w B bb bc L) (hb : Blk b IT cs w) (hg : w.grownBy w' (some b)) : Buf w' B bb bc L := by
  obtain ⟨h1, h2, v, h3, h4⟩ := h
  exact ⟨blk_grown h1 hg (fun e => (IsT.ne ⟨_, hb⟩ ⟨_, h1⟩ (by decide)) (Option.some.inj e)), h2, v, h3, h4.grown hb (by decide) hg⟩
theorem core0 {bx : List Int} {cs : List (List Dot)} {k q X dt : Nat} (hpos : Pos bx 0 0 (12 + 2 * k) q (q + X) (0, 0, false) cs.flatten) (hb : ∀ c ∈ cs, ∀ d ∈ c, Bp (pt d)) :
    Core bx [] (cs.drop 0).flatten (It0 (10 + 2 * (k : Int) + 2) (q : Int) ((q : Int) + (X : Int)) ((dt : Int) - 1) (k : Int)) := by
  refine ⟨⟨0, 12 + 2 * k, q, q + X, rfl, by omega, ?_, rfl, ?_, hpos⟩, ⟨rfl, by show (0 : Int) ≤ 0; omega, by show (0 : Int) ≤ 1000; omega⟩, ⟨by show (-4096 : Int) ≤ 0 ∧ (0 : Int) ≤ 4096; omega, by show (-4096 : Int) ≤ 0 ∧ (0 : Int) ≤ 4096; omega⟩, fun d hd => ?_⟩
  · show 10 + 2 * (k : Int) + 2 = ((12 + 2 * k : Nat) : Int); omega
  · show (q : Int) + (X : Int) = ((q + X : Nat) : Int); omega
  · rw [List.nil_append, List.drop_zero] at hd
    obtain ⟨c, hc, hd⟩ := List.mem_flatten.1 hd
    exact hb c hc d hd
/-- at a contour's begin -/
theorem con_is {bx : List Int} {cs : List (List Dot)} {j : Nat} {t : It} (hj : j < cs.length) (hok : ConOk (cs.getD j [])) (hc : Core bx [] (cs.drop j).flatten t) (hp : Bp t.a ∧ Bp t.b ∧ Bp t.e) (hpe : t.pe = (dots (cs.take j) : Int) - 1) :
    IS bx (cs.getD j []) (cs.drop (j + 1)).flatten (It.con t ((dots (cs.take (j + 1)) : Int) - 1)) ∧ left (It.con t ((dots (cs.take (j + 1)) : Int) - 1)) (cs.getD j []) = pathOf (cs.getD j []) := by
  have hdr : cs.drop j = cs.getD j [] :: cs.drop (j + 1) := by
    rw [List.drop_eq_getElem_cons hj, List.getD_eq_getElem?_getD, List.getElem?_eq_getElem hj]; rfl
  have hdt := dots_take cs j hj
  obtain ⟨h1, h2, h3, h4⟩ := hc
  rw [hdr, List.flatten_cons, List.nil_append] at h1 h4
  refine ⟨⟨⟨h1, ⟨?_, ?_, ?_⟩, h3, h4⟩, .inr ⟨rfl, fun h => absurd (show false = true from h) (by decide), fun _ => rfl, .inr ⟨?_, ?_⟩, hp⟩, hp⟩, ?_⟩
  · show (dots (cs.take (j + 1)) : Int) - 1 - t.pe = 0 + _
    rw [hpe, hdt]; omega
  · show (0 : Int) ≤ 0; omega
  · show (dots (cs.take (j + 1)) : Int) - 1 - t.pe ≤ 1000
    rw [hpe, hdt]; have := hok.2.1; omega
  · intro he
    have := hok.1
    rw [he] at this; simp at this
  · intro _ hl d hd
    have := hok.2.2.2 hl
    match hcc : cs.getD j [], hl, hd with
    | [x], _, hd =>
      rw [hcc] at this
      simp at hd
      subst hd
      exact this
  · exact (left_live rfl).trans (rest_path hok.1 hok.2.2.2)
theorem bgrown {B b : Nat} {w w' w'' : World} (hB : B ≤ w.heap.size) (h : Below B w w') (hg : w'.grownBy w'' (some b)) (hb : B ≤ b) : Below B w w'' :=
  h.grown hg (Nat.le_trans hB h.size) (fun g e => by rw [← Option.some.inj e]; exact hb)
set_option maxHeartbeats 100000000 in
set_option maxRecDepth 20000 in
theorem load_simple (B fb bb g n c lb lc N x off len st dep : Nat) (locs bs bx : List Int) (bc : List Value) (buf : Value) (SL : List Rec) (cs : List (List Dot)) (w : World)
    (hF : Fnt fb g n c lb lc N locs bs w) (h1 : fb < B) (h2 : g < B) (h3 : lb < B) (hBw : B ≤ w.heap.size) (hB : Buf w B bb bc SL) (hb0 : bc[0]? = some buf) (hSL : SL.length ≤ 500) (hN : N ≤ 1000) (hl : locs.length = N + 1) (hx : x < N)
    (ha : locs.getD x 0 = (off : Int)) (hb : locs.getD (x + 1) 0 = ((off + len : Nat) : Int)) (hle : off + len ≤ n) (hnc : n ≤ c) (hn : n ≤ 60000)
    (hlen : len = bx.length) (hbx : At w g off (vals .u8 bx)) (hcod : Cod cs bx) (hk0 : 0 < cs.length) (hk3 : cs.length ≤ 3) (hok : ∀ c ∈ cs, ConOk c) :
    Calls Tryd.prog 23 #[.pointer (some ⟨fb, 0, none⟩), .pointer (some ⟨bb, 0, none⟩), .int .u16 (x : Int), .int .u32 (st : Int), .int .u32 (dep : Int)] w (LoadP B bb bc (SL ++ (pathC cs).map recOf) w) := by
  have hbuf : w.cell? ⟨bb, 0, none⟩ = some buf := hB.1.cell hb0
  have HVG := viewg_any fb bb g n c lb lc N x off len locs bs buf w hF hbuf hN hl hx ha hb hle hnc hn
  have hH := cod_head hcod hk3 hok
  have hlen12 := hH.len
  rw [← hlen] at hlen12
  have hva : vat off len c = off := if_neg (by omega)
  rw [hva] at HVG
  have HVH := Lib.hid HVG
  obtain ⟨k, hk⟩ : ∃ k, k = cs.length := ⟨_, rfl⟩
  obtain ⟨dt, hdt⟩ : ∃ d, d = dots cs := ⟨_, rfl⟩
  have hdl := dots_le cs hok
  rw [← hdt, ← hk] at hdl
  have HH := Lib.hid (And.intro hH (And.intro hlen (And.intro hbx (And.intro hF (And.intro hB (And.intro hk (And.intro hdt hok)))))))
  have HU : Hid (∀ W i e, At W g off (vals .u8 bx) → i + 1 < bx.length → bx.getD i 0 * 256 + bx.getD (i + 1) 0 = e → Calls Tryd.prog 28 #[.slice (some ⟨g, off + i, none⟩) (len - i) (c - off - i)] W fun e' w' => e' = .returned (.int .u16 e) ∧ W.drew = w') := Lib.hid (fun W i e hA hi he => by
    rw [← he]
    exact SfntB.u16_any g (off + i) (len - i) (c - off - i) _ _ W (by omega) (hH.byt _ (RowG.getD_mem _ _ _ (by omega))) (hH.byt _ (RowG.getD_mem _ _ _ hi)) (byt_cell hA (by omega)) (by have := byt_cell hA hi; rw [Nat.add_assoc]; exact this))
  clear HVG hva hbuf hF hB hb0 hl ha hb hlen hbx hcod hok hH
  rw [← hk] at hk0 hk3 hlen12
  clear hk hdt
  have t1 : ((len : Int) == 0) = false := by simp; omega
  have t2 : ¬ ((len : Int) < 10) := by omega
  have t3 : ((k : Int) == -1) = false := by simp <;> omega
  have t4 : ((k : Int) == 0) = false := by simp; omega
  have t5 : (0 : Int) < (k : Int) := by omega
  go_enter Tryd.func23, Tryd.ntmps23
  go_wp2_with fail
  refine HVH.out.mono ?_
  rintro e w1 ⟨rfl, rfl⟩
  go_wp2_with fail
  have HU0 := HU.out w 0 (k : Int) HH.out.2.2.1 (by have := HH.out.2.1; omega) (by rw [HH.out.1.n, HH.out.2.2.2.2.2.1])
  rw [Nat.add_zero, Nat.sub_zero, Nat.sub_zero] at HU0
  refine HU0.mono ?_
  rintro e w1 ⟨rfl, rfl⟩
  clear HU0
  go_wp2_with fail
  have hke := HH.out.2.2.2.2.2.1
  have hE1 : bx.getD (10 + 2 * k - 2) 0 * 256 + bx.getD (10 + 2 * k - 2 + 1) 0 = (dt : Int) - 1 := by
    have := HH.out.1.ends (cs.length - 1) (by omega)
    rw [show cs.length - 1 + 1 = cs.length by omega, List.take_length, ← HH.out.2.2.2.2.2.2.1] at this
    rw [show 10 + 2 * k - 2 = 10 + 2 * (cs.length - 1) by omega]
    exact this
  have HU1 := HU.out w.drew (10 + 2 * k - 2) ((dt : Int) - 1) HH.out.2.2.1 (by have := HH.out.2.1; omega) hE1
  clear hE1 hke
  refine HU1.mono ?_
  rintro e w1 ⟨rfl, rfl⟩
  clear HU1
  have hdt1 : 1 ≤ dt := by
    have a := dots_pos HH.out.2.2.2.2.2.2.2 0 (by rw [← HH.out.2.2.2.2.2.1]; exact hk0)
    simp only [Nat.zero_add] at a
    have b := dots_mono (cs := cs) 1 (by rw [← HH.out.2.2.2.2.2.1]; exact hk0)
    have c := HH.out.2.2.2.2.2.2.1
    omega
  go_wp2_with fail
  have HU2 := HU.out w.drew.drew (10 + 2 * k) 0 HH.out.2.2.1 (by have := HH.out.2.1; omega) (by rw [HH.out.2.2.2.2.2.1]; exact HH.out.1.hint)
  refine HU2.mono ?_
  rintro e w1 ⟨rfl, rfl⟩
  clear HU2
  go_wp2_with fail
  obtain ⟨q, X, Y, hfl, hsum, hpos⟩ := HH.out.1.beg
  rw [← HH.out.2.2.2.2.2.1, ← HH.out.2.2.2.2.2.2.1] at hfl
  rw [← HH.out.2.2.2.2.2.1] at hpos
  have hsl : q + X + Y = len := by have := HH.out.2.1; omega
  have HFX := IdxO.find_any g off dt (c - off) (12 + 2 * k) len q X Y bx w.drew.drew.drew HH.out.2.1 HH.out.2.2.1 HH.out.1.byt hfl (by omega) (by omega) (by omega) (by omega)
  rw [show ((12 + 2 * k : Nat) : Int) = 10 + 2 * (k : Int) + 2 by omega, show (dt : Int) = 1 + ((dt : Int) - 1) by omega] at HFX
  have HPO := Lib.hid hpos
  clear hfl hsum hpos
  refine HFX.mono ?_
  rintro e w1 ⟨rfl, rfl⟩
  clear HFX
  have wz1 : IntKind.i32.wrap (1 + ((dt : Int) - 1) - 1) = (dt : Int) - 1 := by rw [IntWalk.i32_in _ (by omega)]; omega
  have wz2 : 1 + ((dt : Int) - 1) - 1 = (dt : Int) - 1 := by omega
  obtain ⟨w3, hw3⟩ : ∃ W, W = w.drew.drew.drew := ⟨_, rfl⟩
  have hd3 : Below w.heap.size w w3 := by rw [hw3]; exact ((Below.refl _ _).drew.drew).drew
  have hs3 : w3.heap.size = w.heap.size := by rw [hw3]; rfl
  rw [← hw3]
  have H3 := Lib.hid (And.intro hd3 hs3)
  clear hw3 hd3 hs3
  go_upto_region 32 with (fail)
  repeat (first | ((with_reducible refine Gate.alloc (t := IT) ?_); refine RowS.al_any rfl rfl (it_zero _) ?_; intro Z2 hZ2; have hz : Blk w3.heap.size IT zit Z2 := by (rw [← hZ2]; exact Blk.new_ _ zit.toArray IT)) | ((with_reducible refine Gate.store (t := IT) ?_); refine RowS.st_row_eq rfl IT _ _ rfl _ _ rfl rfl IT zit.toArray hz (by rw [it_info]; rfl) rfl (it_one (some ⟨g, off, none⟩) len (c - off) (It0 (10 + 2 * (k : Int) + 2) (q : Int) ((q : Int) + (X : Int)) ((dt : Int) - 1) (k : Int))) ?_; intro Z hZ) | go_values | go_skip | go_guarded | go_step | go_upon | go_back)
  try simp only [Act.put, List.getElem_toArray, List.getElem_cons_zero, List.getElem_cons_succ, List.setIfInBounds_toArray, List.set_cons_zero, List.set_cons_succ]
  obtain ⟨gi, hgid⟩ : ∃ g, g = w3.heap.size := ⟨_, rfl⟩
  have hBZ : Blk gi IT ((It0 (10 + 2 * (k : Int) + 2) (q : Int) ((q : Int) + (X : Int)) ((dt : Int) - 1) (k : Int)).cs (.slice (some ⟨g, off, none⟩) len (c - off)) .nilIface) Z := by
    rw [← hZ, hgid]
    exact RowS.blk_row hz _
  have hdZ : Below w.heap.size w Z := by
    rw [← hZ, ← hZ2]
    exact RowS.bel_row (H3.out.1.alloc (by rw [H3.out.2]; exact Nat.le_refl _) _) (by rw [H3.out.2]; exact Nat.le_refl _)
  rw [← hgid]
  have hgiw : gi = w.heap.size := by rw [hgid, H3.out.2]
  clear hZ hZ2 hz HVH H3
  have hBl : Below B w Z := hdZ.mono hBw
  have hBgi : B ≤ gi := by omega
  have hggi : g ≠ gi := by omega
  have hBbb : B ≤ bb := HH.out.2.2.2.2.1.2.1
  have hbbgi : bb < gi := by have := HH.out.2.2.2.2.1.1.lt; omega
  have HZ := Lib.hid (And.intro hBZ (And.intro (HH.out.2.2.2.2.1.below hdZ) hBl))
  have HA : Hid (∀ W, Below B w W → At W g off (vals .u8 bx)) := Lib.hid (fun W hb j u hu => (hb.cell (p := ⟨g, off + j, none⟩) h2).trans (HH.out.2.2.1 j u hu))
  have hgl : g < w.heap.size := by omega
  have hglw : ∀ W, Below B w W → g < W.heap.size := fun W hb => by have := hb.size; omega
  have HGL := Lib.hid hglw
  have HBD : Hid (∀ c ∈ cs, ∀ d ∈ c, Bp (pt d)) := Lib.hid (fun c hc d hd => by
    have := (HH.out.2.2.2.2.2.2.2 c hc).2.2.1 d hd
    exact ⟨this.1.1, this.2.1⟩)
  have HK := Lib.hid HH.out.2.2.2.2.2.1
  have HDT := Lib.hid HH.out.2.2.2.2.2.2.1
  have HLN := Lib.hid HH.out.2.1
  have HBY := Lib.hid HH.out.1.byt
  have HEN := Lib.hid HH.out.1.ends
  have HOK := Lib.hid HH.out.2.2.2.2.2.2.2
  clear hBZ hdZ hBl hgid hgiw HU hglw t1 t2 t3 t4 t5 wz1 wz2 HH
  go_loopg [] k (fun r wr => ∃ (t : It) (j : Nat) (bc' : List Value), r = k - j ∧ j ≤ k ∧ Blk gi IT (t.cs (.slice (some ⟨g, off, none⟩) len (c - off)) .nilIface) wr ∧ Agr bc bc' ∧ Buf wr B bb bc' (SL ++ (pathC (cs.take j)).map recOf) ∧ Below B w wr ∧ Core bx [] (cs.drop j).flatten t ∧ (Bp t.a ∧ Bp t.b ∧ Bp t.e) ∧ t.c = (j : Int) ∧ t.nc = (k : Int) ∧ t.ei = ((10 + 2 * j : Nat) : Int) ∧ t.pe = (dots (cs.take j) : Int) - 1 ∧ t.fe = (dt : Int) - 1)
  case atStart => exact ⟨_, 0, bc, rfl, Nat.zero_le _, HZ.out.1, Agr.refl bc, by rw [List.take_zero]; simpa [pathC] using HZ.out.2.1, HZ.out.2.2, core0 HPO.out HBD.out, ⟨⟨by show (-4096 : Int) ≤ 0 ∧ (0 : Int) ≤ 4096; omega, by show (-4096 : Int) ≤ 0 ∧ (0 : Int) ≤ 4096; omega⟩, ⟨by show (-4096 : Int) ≤ 0 ∧ (0 : Int) ≤ 4096; omega, by show (-4096 : Int) ≤ 0 ∧ (0 : Int) ≤ 4096; omega⟩, ⟨by show (-4096 : Int) ≤ 0 ∧ (0 : Int) ≤ 4096; omega, by show (-4096 : Int) ≤ 0 ∧ (0 : Int) ≤ 4096; omega⟩⟩, rfl, rfl, rfl, by rw [List.take_zero]; rfl, rfl⟩
  case round =>
    obtain ⟨t, j, bc', rfl, hj, hB, hagr, hbuf, hbel, hcore, hbp, e1, e2, e3, e4, e5⟩ := hrel
    obtain ⟨wo, hwo⟩ : ∃ W, W = wr := ⟨_, rfl⟩
    subst hwo
    by_cases hlt : j < k
    · have hjl : j < cs.length := by rw [← HK.out]; exact hlt
      have hok := HOK.out _ (RowG.getD_mem cs j [] hjl)
      have hci := con_is hjl hok hcore hbp e4
      have hdp := dots_pos HOK.out j hjl
      have hdm := dots_mono (cs := cs) (j + 1) hjl
      have hpt := pathC_take cs j hjl
      have hpl := pathC_len (cs.take j) (fun c hc => HOK.out c (List.mem_of_mem_take hc))
      have hpo := pathOf_len (cs.getD j [])
      have hd6 := hok.2.1
      rw [List.length_take] at hpl
      have HCT := Lib.hid (contour_any wo gi g off len (c - off) .nilIface t bx (10 + 2 * j) ((dots (cs.take (j + 1)) : Int) - 1) hB hggi (HA.out wo hbel) HLN.out (by omega) (by omega) HBY.out (by rw [e1, e2]; omega) e3 (by omega) (HEN.out j hjl) (by rw [e4, e5]; have := HDT.out; omega))
      have hs5 : (It.con t ((dots (cs.take (j + 1)) : Int) - 1)).c = ((j + 1 : Nat) : Int) ∧ (It.con t ((dots (cs.take (j + 1)) : Int) - 1)).nc = (k : Int) ∧ (It.con t ((dots (cs.take (j + 1)) : Int) - 1)).ei = ((10 + 2 * (j + 1) : Nat) : Int) ∧ (It.con t ((dots (cs.take (j + 1)) : Int) - 1)).pe = (dots (cs.take (j + 1)) : Int) - 1 ∧ (It.con t ((dots (cs.take (j + 1)) : Int) - 1)).fe = (dt : Int) - 1 :=
        ⟨by show t.c + 1 = _; rw [e1]; rfl, e2, by show t.ei + 2 = _; rw [e3]; omega, rfl, e5⟩
      obtain ⟨t1, ht1⟩ : ∃ t', t' = It.con t ((dots (cs.take (j + 1)) : Int) - 1) := ⟨_, rfl⟩
      rw [← ht1] at HCT hci hs5
      have HC1 := Lib.hid (And.intro hci (And.intro hs5 (And.intro hpt (And.intro hbuf (And.intro hbel hagr)))))
      have hbase : (SL ++ (pathC (cs.take j)).map recOf).length ≤ 524 := by rw [List.length_append, List.length_map]; omega
      obtain ⟨L0, hL0⟩ : ∃ L, L = SL ++ (pathC (cs.take j)).map recOf := ⟨_, rfl⟩
      obtain ⟨cc, hcc⟩ : ∃ c, c = cs.getD j [] := ⟨_, rfl⟩
      obtain ⟨lt, hltd⟩ : ∃ l, l = (cs.drop (j + 1)).flatten := ⟨_, rfl⟩
      rw [← hL0] at HC1 hbase
      rw [← hcc] at HC1 hpo hd6
      rw [← hltd] at HC1
      have HNM := Lib.hid (And.intro hL0 (And.intro hcc hltd))
      have HBo := Lib.hid hB
      clear hB hagr hbuf hbel hcore hbp e1 e2 e3 e4 e5 hok hci hdp hdm hpt hpl ht1 hs5 hL0 hcc hltd hjl
      go_wp2_with fail
      refine HCT.out.mono ?_
      rintro e W1 ⟨rfl, hB1, hg1⟩
      have HW1 := Lib.hid (And.intro hB1 (And.intro (HC1.out.2.2.2.1.grown HBo.out hg1) (bgrown hBw HC1.out.2.2.2.2.1 hg1 hBgi)))
      clear hB1 hg1
      go_wp2_with fail
      go_loopg [] (left t1 cc).length (fun r wq => ∃ (t : It) (cr : List Dot) (bd : List Value) (dn : List Sg), r = (left t cr).length ∧ Blk gi IT (t.cs (.slice (some ⟨g, off, none⟩) len (c - off)) .nilIface) wq ∧ Agr bc bd ∧ Buf wq B bb bd (L0 ++ dn.map recOf) ∧ dn ++ left t cr = pathOf cc ∧ Below B w wq ∧ IS bx cr lt t ∧ Same5 t1 t)
      case atStart => exact ⟨t1, cc, bc', [], rfl, HW1.out.1, HC1.out.2.2.2.2.2, by rw [List.map_nil, List.append_nil]; exact HW1.out.2.1, HC1.out.1.2, HW1.out.2.2, HC1.out.1.1, rfl, rfl, rfl, rfl, rfl⟩
      case round =>
        clear HW1 HCT
        obtain ⟨t2, cr, bd, dn, rfl, hB2, hagr2, hbuf2, hdn, hbel2, his2, hsm2⟩ := hrel
        obtain ⟨wq, hwq⟩ : ∃ W, W = wr := ⟨_, rfl⟩
        subst hwq
        cases hcd : t2.cd
        · have HSG := Lib.hid (seg_any wq gi g off len (c - off) .nilIface t2 bx cr lt hB2 hggi (HGL.out wq hbel2) (HA.out wq hbel2) HLN.out (by omega) (by omega) HBY.out his2 hcd)
          have HB2 := Lib.hid (And.intro hB2 (And.intro hagr2 (And.intro hbuf2 (And.intro hdn (And.intro hbel2 hsm2)))))
          clear hB2 hagr2 hbuf2 hdn hbel2 his2 hsm2 hcd
          go_wp2_with fail
          refine HSG.out.mono ?_
          rintro e W2 ⟨t3, rfl, ⟨sg, cr3, hl3, hsi3, his3, hsm3⟩, hB3, hg3⟩
          have hdl3 : dn.length + 1 + (left t3 cr3).length = (pathOf cc).length := by
            have := congrArg List.length HB2.out.2.2.2.1
            rw [hl3, List.length_append, List.length_cons] at this
            omega
          have hbuf3 := HB2.out.2.2.1.grown HB2.out.1 hg3
          have hbel3 := bgrown hBw HB2.out.2.2.2.2.1 hg3 hBgi
          obtain ⟨hb1, hb2, v, hv1, hv2⟩ := hbuf3
          have hrec := seg_is hsi3
          have H3 := Lib.hid (And.intro hB3 (And.intro hb1 (And.intro hv1 (And.intro hv2 (And.intro hbel3 (And.intro hrec (And.intro hl3 (And.intro his3 (same_of HB2.out.2.2.2.2.2 hsm3)))))))))
          have hsz3 := hbel3.size
          have hLl : (L0 ++ dn.map recOf).length ≤ 1000 := by rw [List.length_append, List.length_map]; omega
          have hsz3' : B ≤ W2.drew.heap.size := Nat.le_trans hBw hsz3
          have HL1 := Lib.hid hLl
          clear hB3 hg3 hb1 hb2 hv1 hv2 hbel3 hrec hl3 hsi3 his3 hsm3 HSG hLl
          go_wp2_with fail
          refine Tail.start (S := (fun w' => Blk bb BT bd w' ∧ Blk gi IT (t3.cs (.slice (some ⟨g, off, none⟩) len (c - off)) .nilIface) w' ∧ Below B w w')) (tl := [11]) (by kernel_rfl) ⟨H3.out.2.1, H3.out.1, Below.drew H3.out.2.2.2.2.1⟩ (fun hHeld => ?_)
          refine Tail.take (i := 0) (v := ?vq1) rfl (by kernel_rfl) (by kernel_rfl) (by kernel_rfl) (by kernel_rfl) (by kernel_rfl) (fun _ _ _ h => h) (Or.inl ⟨by rfl, ?hyq1⟩) (by assumption) ?restq1
          case hyq1 => (intro w1 hS; go_simp <;> with_reducible rfl)
          try simp only [Act.put, List.getElem_toArray, List.getElem_cons_zero, List.getElem_cons_succ, List.setIfInBounds_toArray, List.set_cons_zero, List.set_cons_succ]
          refine Tail.take (i := 1) (v := ?vq2) rfl (by kernel_rfl) (by kernel_rfl) (by kernel_rfl) (by kernel_rfl) (by kernel_rfl) (fun _ _ _ h => h) (Or.inl ⟨by rfl, ?hyq2⟩) (by assumption) ?restq2
          case hyq2 => (intro w1 hS; go_simp <;> with_reducible rfl)
          try simp only [Act.put, List.getElem_toArray, List.getElem_cons_zero, List.getElem_cons_succ, List.setIfInBounds_toArray, List.set_cons_zero, List.set_cons_succ]
          refine Tail.take (i := 2) (v := ?vq3) rfl (by kernel_rfl) (by kernel_rfl) (by kernel_rfl) (by kernel_rfl) (by kernel_rfl) (fun _ _ _ h => h) (Or.inl ⟨by rfl, ?hyq3⟩) (by assumption) ?restq3
          case hyq3 => (intro w1 hS; go_simp <;> with_reducible rfl)
          try simp only [Act.put, List.getElem_toArray, List.getElem_cons_zero, List.getElem_cons_succ, List.setIfInBounds_toArray, List.set_cons_zero, List.set_cons_succ]
          refine Tail.take (i := 3) (v := ?vq4) rfl (by kernel_rfl) (by kernel_rfl) (by kernel_rfl) (by kernel_rfl) (by kernel_rfl) (fun _ _ _ h => h) (Or.inl ⟨by rfl, ?hyq4⟩) (by assumption) ?restq4
          case hyq4 => (intro w1 hS; go_simp <;> with_reducible rfl)
          try simp only [Act.put, List.getElem_toArray, List.getElem_cons_zero, List.getElem_cons_succ, List.setIfInBounds_toArray, List.set_cons_zero, List.set_cons_succ]
          refine Tail.take (i := 4) (v := ?vq5) rfl (by kernel_rfl) (by kernel_rfl) (by kernel_rfl) (by kernel_rfl) (by kernel_rfl) (fun _ _ _ h => h) (Or.inl ⟨by rfl, ?hyq5⟩) (by assumption) ?restq5
          case hyq5 => (intro w1 hS; have k := hS.1.cell H3.out.2.2.1; go_simp <;> with_reducible rfl)
          try simp only [Act.put, List.getElem_toArray, List.getElem_cons_zero, List.getElem_cons_succ, List.setIfInBounds_toArray, List.set_cons_zero, List.set_cons_succ]
          refine Tail.take (i := 5) (v := ?vq6) rfl (by kernel_rfl) (by kernel_rfl) (by kernel_rfl) (by kernel_rfl) (by kernel_rfl) (fun _ _ _ h => h) (Or.inl ⟨by rfl, ?hyq6⟩) (by assumption) ?restq6
          case hyq6 => (intro w1 hS; go_simp <;> with_reducible rfl)
          try simp only [Act.put, List.getElem_toArray, List.getElem_cons_zero, List.getElem_cons_succ, List.setIfInBounds_toArray, List.set_cons_zero, List.set_cons_succ]
          refine Tail.take (i := 6) (v := ?vq7) rfl (by kernel_rfl) (by kernel_rfl) (by kernel_rfl) (by kernel_rfl) (by kernel_rfl) (fun _ _ _ h => h) (Or.inl ⟨by rfl, ?hyq7⟩) (by assumption) ?restq7
          case hyq7 => (intro w1 hS; have q28 := hS.2.1.cell (i := 28) rfl; have q29 := hS.2.1.cell (i := 29) rfl; have q30 := hS.2.1.cell (i := 30) rfl; have q31 := hS.2.1.cell (i := 31) rfl; have q32 := hS.2.1.cell (i := 32) rfl; have q33 := hS.2.1.cell (i := 33) rfl; have q34 := hS.2.1.cell (i := 34) rfl; go_simp <;> with_reducible rfl)
          try simp only [Act.put, List.getElem_toArray, List.getElem_cons_zero, List.getElem_cons_succ, List.setIfInBounds_toArray, List.set_cons_zero, List.set_cons_succ]
          refine Tail.ready (rs := [7]) (by kernel_rfl) (by simp) (Tail.AllReadyL.cons rfl (fun K hK => ?_) Tail.AllReadyL.nil)
          go_simp
          refine hK.out _ _ ⟨hHeld.1.keep (bel_made _ _ _), hHeld.2.1.keep (bel_made _ _ _), hHeld.2.2.trans ((bel_made _ _ _).mono hsz3')⟩ (fun hHeld => ?_)
          clear hK K
          try simp only [Act.put, List.getElem_toArray, List.getElem_cons_zero, List.getElem_cons_succ, List.setIfInBounds_toArray, List.set_cons_zero, List.set_cons_succ]
          obtain ⟨Y, hY⟩ : ∃ Y, Y = (W2.alloc (.cells #[.int .u32 t3.op, .int .i32 t3.q0.1, .int .i32 t3.q0.2, .int .i32 t3.q1.1, .int .i32 t3.q1.2, .int .i32 t3.q2.1, .int .i32 t3.q2.2] 145)).drew := ⟨_, rfl⟩
          have hsY : Segs Y B v (L0 ++ dn.map recOf) := by rw [hY]; exact H3.out.2.2.2.1.below (Below.drew (bel_made W2 _ _))
          have hnY : Blk W2.heap.size ST (rc (t3.op, t3.q0, t3.q1, t3.q2)) Y := by rw [hY]; exact Blk.new_ W2 #[.int .u32 t3.op, .int .i32 t3.q0.1, .int .i32 t3.q0.2, .int .i32 t3.q1.1, .int .i32 t3.q1.2, .int .i32 t3.q2.1, .int .i32 t3.q2.2] ST
          rw [← hY] at hHeld
          rw [← hY]
          clear hY
          have hszY : B ≤ Y.heap.size := Nat.le_trans hBw hHeld.2.2.size
          have HsY := Lib.hid (And.intro hsY hnY)
          obtain ⟨M, hM⟩ : ∃ M, (L0 ++ dn.map recOf).length + 1 = M := ⟨_, rfl⟩
          have HM := Lib.hid hM
          clear hM
          clear hsY hnY
          refine Tail.ready (rs := [8]) (by kernel_rfl) (by simp) (Tail.AllReadyL.cons rfl (fun K hK => ?_) Tail.AllReadyL.nil)
          refine step_seg rfl (.tmp 132) (.tmp 135) rfl rfl HsY.out.1 rfl HsY.out.2 HL1.out hszY HM.out ?_
          intro gv cv W3 hS3 hgr hT
          refine hK.out _ _ ⟨blk_grown hHeld.1 hgr (fun e => ((hT _ e).1.ne ⟨_, hHeld.1⟩ (by decide)) rfl), blk_grown hHeld.2.1 hgr (fun e => ((hT _ e).1.ne ⟨_, hHeld.2.1⟩ (by decide)) rfl), hHeld.2.2.grown hgr hszY (fun b hb => (hT b hb).2)⟩ (fun hHeld => ?_)
          clear hK K
          try simp only [Act.put, List.getElem_toArray, List.getElem_cons_zero, List.getElem_cons_succ, List.setIfInBounds_toArray, List.set_cons_zero, List.set_cons_succ]
          refine Tail.ready (rs := [9]) (by kernel_rfl) (by simp) (Tail.AllReadyL.cons rfl (fun K hK => ?_) Tail.AllReadyL.nil)
          go_simp
          refine hK.out _ _ hHeld (fun hHeld => ?_)
          clear hK K
          try simp only [Act.put, List.getElem_toArray, List.getElem_cons_zero, List.getElem_cons_succ, List.setIfInBounds_toArray, List.set_cons_zero, List.set_cons_succ]
          refine Tail.ready (rs := [10]) (by kernel_rfl) (by simp) (Tail.AllReadyL.cons rfl (fun K hK => ?_) Tail.AllReadyL.nil)
          go_simp
          refine hK.out _ _ hHeld (fun hHeld => ?_)
          clear hK K
          try simp only [Act.put, List.getElem_toArray, List.getElem_cons_zero, List.getElem_cons_succ, List.setIfInBounds_toArray, List.set_cons_zero, List.set_cons_succ]
          refine Tail.ready (rs := [11]) (by kernel_rfl) (by simp) (Tail.AllReadyL.last rfl (by rfl) (fun K hK => ?_) Tail.AllReadyL.nil)
          have k1 := hHeld.1.cell H3.out.2.2.1
          have kf := hHeld.1.frozen
          have hB4 := hHeld.1.set_ 1 (.slice (some ⟨gv, 0, none⟩) M cv)
          have hG4 := hHeld.2.1.other (c := bb) (i := 1) (v := (.slice (some ⟨gv, 0, none⟩) M cv)) (by omega)
          have hD4 := hHeld.2.2.setCell (p := ⟨bb, 1, none⟩) hBbb (.slice (some ⟨gv, 0, none⟩) M cv)
          have hS4 : Segs (W3.setCell ⟨bb, 1, none⟩ (.slice (some ⟨gv, 0, none⟩) M cv)) B (.slice (some ⟨gv, 0, none⟩) M cv) (L0 ++ (dn ++ [sg]).map recOf) := by
            rw [List.map_append, List.map_cons, List.map_nil, ← List.append_assoc, ← H3.out.2.2.2.2.2.1]
            exact GlyM.own_block hS3 (fun g hg => Below.heap_setCell _ _ _ _ (fun e => ((own_isT hS3 hg).1.ne ⟨_, hHeld.1⟩ (by decide)) e))
          have hv4 : (bd.set 1 (.slice (some ⟨gv, 0, none⟩) M cv))[1]? = some (.slice (some ⟨gv, 0, none⟩) M cv) := by
            have := (List.getElem?_eq_some_iff.1 H3.out.2.2.1).1
            rw [List.getElem?_set_self this]
          have H4 := Lib.hid (And.intro hB4 (And.intro hG4 (And.intro hD4 (And.intro hv4 hS4))))
          clear hB4 hG4 hD4 hS4 hv4 hHeld hS3 hgr hT
          go_simp
          refine hK.out _ _ ?_
          clear hK K
          try simp only [Act.put, List.getElem_toArray, List.getElem_cons_zero, List.getElem_cons_succ, List.setIfInBounds_toArray, List.set_cons_zero, List.set_cons_succ]
          refine Tail.done (by kernel_rfl) ?_ _
          go_wp2_with fail
          go_roundg (left t3 cr3).length
          case rel => exact ⟨t3, cr3, bd.set 1 (.slice (some ⟨gv, 0, none⟩) M cv), dn ++ [sg], rfl, H4.out.2.1, HB2.out.2.1.trans (Agr.set _ _), ⟨H4.out.1, hBbb, (.slice (some ⟨gv, 0, none⟩) M cv), H4.out.2.2.2.1, H4.out.2.2.2.2⟩, by rw [List.append_assoc, List.singleton_append, ← H3.out.2.2.2.2.2.2.1]; exact HB2.out.2.2.2.1, H4.out.2.2.1, H3.out.2.2.2.2.2.2.2.1, H3.out.2.2.2.2.2.2.2.2⟩
          case measure => rw [H3.out.2.2.2.2.2.2.1, List.length_cons]; omega
        · have h0 : cr = [] ∧ left t2 cr = [] := by
            rcases his2.2.1 with h | h
            · exact ⟨h.2, by unfold left; rw [hcd]; rfl⟩
            · rw [h.1] at hcd; cases hcd
          have HSN := Lib.hid (seg_none wq gi _ _ t2 hB2 hcd)
          obtain ⟨h01, h02⟩ := h0
          rw [h02, List.append_nil] at hdn
          subst hdn
          rw [h01] at his2
          have hfin : L0 ++ (pathOf cc).map recOf = SL ++ (pathC (cs.take (j + 1))).map recOf := by rw [HC1.out.2.2.1, List.map_append, ← List.append_assoc, ← HNM.out.1]
          rw [hfin] at hbuf2
          obtain ⟨s1, s2, s3, s4, s5⟩ := hsm2
          have HF := Lib.hid (And.intro hB2 (And.intro hagr2 (And.intro hbuf2 (And.intro hbel2 (And.intro his2.1 (And.intro his2.2.2 (And.intro (s4.trans HC1.out.2.1.1) (And.intro (s5.trans HC1.out.2.1.2.1) (And.intro (s1.trans HC1.out.2.1.2.2.1) (And.intro (s2.trans HC1.out.2.1.2.2.2.1) (s3.trans HC1.out.2.1.2.2.2.2)))))))))))
          clear hB2 hagr2 hbuf2 hbel2 his2 hcd s1 s2 s3 s4 s5 h01 h02 hfin
          go_wp2_with fail
          refine HSN.out.mono ?_
          rintro e W2 ⟨rfl, rfl⟩
          go_wp2_with fail
          go_roundg (k - (j + 1))
          case rel => exact ⟨t2, j + 1, bd, rfl, by omega, HF.out.1, HF.out.2.1, HF.out.2.2.1, HF.out.2.2.2.1, by rw [← HNM.out.2.2]; exact HF.out.2.2.2.2.1, HF.out.2.2.2.2.2.1, HF.out.2.2.2.2.2.2.1, HF.out.2.2.2.2.2.2.2.1, HF.out.2.2.2.2.2.2.2.2.1, HF.out.2.2.2.2.2.2.2.2.2.1, HF.out.2.2.2.2.2.2.2.2.2.2⟩
          case measure => omega
    · obtain rfl : k = j := by omega
      have k1 := hB.cell (i := 1) rfl
      have htk : cs.take k = cs := by rw [HK.out, List.take_length]
      rw [htk] at hbuf e4
      have HF := Lib.hid (And.intro hagr (And.intro hbuf hbel))
      have HCN := Lib.hid (contour_none wo gi _ _ t hB (by rw [e1, e2]) (by rw [e4, e5, HDT.out]))
      clear hB hagr hbuf hbel hcore hbp e1 e2 e3 e4 e5 htk
      go_wp2_with fail
      refine HCN.out.mono ?_
      rintro e W1 ⟨rfl, nq, rfl⟩
      go_wp2_with fail
      go_ret
      exact ⟨rfl, bc', HF.out.1, HF.out.2.1.below (bel_draws (Below.refl _ _) nq), bel_draws HF.out.2.2 nq⟩
end Go.Proofs.YtdeaodgcdacleaaDoor.LdC
