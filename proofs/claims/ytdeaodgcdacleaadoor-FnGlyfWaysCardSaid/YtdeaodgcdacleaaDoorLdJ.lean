/- Several texts in one, in the order of their building: Contract of the loading of a glyph that is empty. · Contract of the loading of a glyph of a font of bytes: empty, of contours, of parts. · Contract of the export that loads a glyph of a list of bytes. · Lists of rows of bytes, as a call of one's own makes them. · Paths of the thin package in memory: a row of steps, each with a row of places; a step more. · Contract of the thin package's turning of steps into plain data. · Contract of the thin package's reading of a glyph. -/
import Derived.Test.YtdeaodgcdacleaaDoorLdS
import Derived.Test.YtdeaodgcdacleaaDoorLdF
import Derived.Test.YtdeaodgcdacleaaDoorMem
import Derived.Test.YtdeaodgcdacleaaDoorPthC
namespace Go.Proofs.YtdeaodgcdacleaaDoor.LdE
open Go.ChangeShapes Go.WideShapes Go.ChangeAt Go.RowKit
open Lst Mem RowG SpecB GlyM PthA PthC LdA LdB LdC
theorem load_empty (B fb bb g n c lb lc N x off st dep : Nat) (locs bs : List Int) (bc : List Value) (buf : Value) (SL : List Rec) (w : World)
    (hF : Fnt fb g n c lb lc N locs bs w) (hB : Buf w B bb bc SL) (hb0 : bc[0]? = some buf) (hN : N ≤ 1000) (hl : locs.length = N + 1) (hx : x < N)
    (ha : locs.getD x 0 = (off : Int)) (hb : locs.getD (x + 1) 0 = (off : Int)) (hle : off ≤ n) (hnc : n ≤ c) (hn : n ≤ 60000) :
    Calls Tryd.prog 23 #[.pointer (some ⟨fb, 0, none⟩), .pointer (some ⟨bb, 0, none⟩), .int .u16 (x : Int), .int .u32 (st : Int), .int .u32 (dep : Int)] w (LoadP B bb bc SL w) := by
  have HVG := viewg_any fb bb g n c lb lc N x off 0 locs bs buf w hF (hB.1.cell hb0) hN hl hx ha (by rw [Nat.add_zero]; exact hb) hle hnc hn
  obtain ⟨va, hva⟩ : ∃ a, a = vat off 0 c := ⟨_, rfl⟩
  rw [← hva] at HVG
  have HV := Lib.hid HVG
  have HB := Lib.hid hB
  clear hva HVG hF hB hb0 hl ha hb
  go_enter Tryd.func23, Tryd.ntmps23
  go_wp2_with fail
  refine HV.out.mono ?_
  rintro e w1 ⟨rfl, rfl⟩
  go_wp2_with fail
  go_ret
  exact ⟨rfl, bc, Agr.refl bc, HB.out, Below.refl _ _⟩
end Go.Proofs.YtdeaodgcdacleaaDoor.LdE
namespace Go.Proofs.YtdeaodgcdacleaaDoor.LdG
open Go.ChangeShapes Go.WideShapes Go.ChangeAt Go.RowKit
open Lst Mem RowG SpecB GlyM DatE ItC PthA PthC LdA LdB LdC LdS LdD LdE LdF Trn RefE
set_option linter.unusedSimpArgs false
set_option linter.unusedVariables false
set_option maxHeartbeats 20000000 in
set_option maxRecDepth 20000 in
theorem load_comp (B fb bb g n c lb lc N x off len m : Nat) (locs bs bx : List Int) (bd : List Value) (buf : Value) (L0 : List Rec) (Gs : List Gl) (Rs : List Ref) (w : World)
    (hF : Fnt fb g n c lb lc N locs bs w) (h1 : fb < B) (h2 : g < B) (h3 : lb < B) (hBw : B ≤ w.heap.size) (hB : Buf w B bb bd L0) (hb0 : bd[0]? = some buf) (hlen6 : 600 ≤ bd.length) (hL0 : L0.length ≤ 100) (hN : N ≤ 1000) (hl : locs.length = N + 1) (hx : x < N)
    (ha : locs.getD x 0 = (off : Int)) (hb : locs.getD (x + 1) 0 = ((off + len : Nat) : Int)) (hle : off + len ≤ n) (hnc : n ≤ c) (hn : n ≤ 60000)
    (hlen : len = bx.length) (hbx : At w g off (vals .u8 bx)) (hcod : CodR Rs bx) (hm : m = Rs.length) (hm3 : m ≤ 3) (hlen2 : len ≤ 1000) (hpo : ∀ r ∈ Rs, PartOk Gs r) (hgi : ∀ r ∈ Rs, 0 ≤ r.1 ∧ r.1 ≤ 65535)
    (hld : ∀ j, j < m → ∀ (W' : World) (bd' : List Value) (L : List Rec), Buf W' B bb bd' L → bd'[0]? = bd[0]? → Below B w W' → L.length ≤ 400 → Calls Tryd.prog 23 #[.pointer (some ⟨fb, 0, none⟩), .pointer (some ⟨bb, 0, none⟩), .int .u16 (Rs.getD j (0, 0, 0, 0, 0)).1, .int .u32 (m : Int), .int .u32 1] W' (LoadP B bb bd' (L ++ partOf Gs (Rs.getD j (0, 0, 0, 0, 0))) W')) :
    Calls Tryd.prog 23 #[.pointer (some ⟨fb, 0, none⟩), .pointer (some ⟨bb, 0, none⟩), .int .u16 (x : Int), .int .u32 0, .int .u32 0] w (RestP B bb (L0 ++ recsR Gs Rs) w) := by
  obtain ⟨za, zb, zc, zd, pb, hpb, hpar, hby⟩ := hcod
  have hp6 := parts_len hpar
  have hbl : bx.length = 10 + pb.length := by rw [hpb]; simp [words]; omega
  have HVG := viewg_any fb bb g n c lb lc N x off len locs bs buf w hF (hB.1.cell hb0) hN hl hx ha hb hle hnc hn
  have hva : vat off len c = off := if_neg (by omega)
  rw [hva] at HVG
  have HV := Lib.hid HVG
  have q0 : bx.getD 0 0 = 255 := by rw [hpb]; rfl
  have q1 : bx.getD 1 0 = 255 := by rw [hpb]; rfl
  have c0 := byt_cell hbx (i := 0) (by omega)
  have c1 := byt_cell hbx (i := 1) (by omega)
  rw [q0] at c0
  rw [q1] at c1
  have HU := Lib.hid (SfntB.u16_any g off len (c - off) 255 255 w (by omega) (by omega) (by omega) c0 c1)
  have hA2 : At w g (off + 10) (vals .u8 pb) := fun j u hu => by
    have := hbx (j + 10) u (by rw [hpb]; exact hu)
    rw [show off + 10 + j = off + (j + 10) from by omega]; exact this
  have hby2 : Byt pb := fun y hy => hby y (by rw [hpb]; simp [hy])
  have hdw : Below B w w.drew := Below.drew (Below.refl _ _)
  have HC := Lib.hid (comp_any w.drew B fb bb g (off + 10) (len - 10) (c - off - 10) m bd pb L0 Gs Rs hm hm3 hL0 hBw h2 hA2 (by omega) (by omega) (by omega) hpar hby2 hB hlen6 hpo hgi (fun j hj W' bd' L a b d e => hld j hj W' bd' L a b (hdw.trans d) e))
  clear HVG hva hF hB hb0 hl ha hb hbx hpb hpar hby hpo hgi hld hA2 hby2 hdw c0 c1 q0 q1 hm hlen6
  have t1 : ((len : Int) == 0) = false := by simp; omega
  have t2 : ¬ ((len : Int) < 10) := by omega
  have t3 : ¬ (c - off = 10) := by omega
  have t4 : (10 : Int) ≤ ((c - off : Nat) : Int) := by omega
  have t5 : 10 ≤ len := by omega
  have t6 : (10 : Int) ≤ (len : Int) := by omega
  clear hbl hlen hp6
  go_enter Tryd.func23, Tryd.ntmps23
  go_wp2_with fail
  refine HV.out.mono ?_
  rintro e w1 ⟨rfl, rfl⟩
  go_wp2_with fail
  refine HU.out.mono ?_
  rintro e w1 ⟨rfl, rfl⟩
  go_wp2_with fail
  refine HC.out.mono ?_
  rintro e w1 ⟨rfl, bd2, hb2, hbel2⟩
  have HF := Lib.hid (And.intro hb2 ((Below.drew (Below.refl B w)).trans hbel2))
  clear hb2 hbel2
  go_wp2_with fail
  go_ret
  exact ⟨rfl, bd2, HF.out.1, HF.out.2⟩
/-- a glyph's bytes -/
def GlyB (Gs : List Gl) (G : Gl) (bs : List Int) : Prop :=
  (G.1 = [] ∧ G.2 = [] ∧ bs = []) ∨ (G.2 = [] ∧ (0 < G.1.length ∧ G.1.length ≤ 3) ∧ (∀ c ∈ G.1, ConOk c) ∧ Cod G.1 bs ∧ bs.length ≤ 1000) ∨
    (G.1 = [] ∧ (0 < G.2.length ∧ G.2.length ≤ 3) ∧ (∀ r ∈ G.2, RefOk Gs r) ∧ CodR G.2 bs ∧ bs.length ≤ 1000)
def FontB (Gs : List Gl) (ds : List (List Int)) : Prop := ds.length = Gs.length ∧ Gs.length ≤ 9 ∧ ∀ i, i < Gs.length → GlyB Gs (Gs.getD i ([], [])) (ds.getD i [])
/-- the places of bytes' pieces -/
def LocB (ds : List (List Int)) (locs : List Int) : Prop := locs.length = ds.length + 1 ∧ ∀ i, i ≤ ds.length → locs.getD i 0 = ((ds.take i).flatten.length : Int)
theorem take_flat (ds : List (List Int)) (i : Nat) (h : i < ds.length) : (ds.take (i + 1)).flatten = (ds.take i).flatten ++ ds.getD i [] := by
  rw [List.take_succ_eq_append_getElem h, List.flatten_append, List.getD_eq_getElem?_getD, List.getElem?_eq_getElem h]
  simp
theorem flat_split (ds : List (List Int)) (i : Nat) (h : i < ds.length) : ds.flatten = (ds.take i).flatten ++ ds.getD i [] ++ (ds.drop (i + 1)).flatten := by
  rw [← take_flat ds i h, ← List.flatten_append, List.take_append_drop]
theorem at_piece {w : World} {g o : Nat} {xs ys zs : List Int} (h : At w g o (vals .u8 (xs ++ ys ++ zs))) : At w g (o + xs.length) (vals .u8 ys) := fun j u hu => by
  have hj : j < ys.length := by
    rcases Nat.lt_or_ge j ys.length with h | h
    · exact h
    · rw [vals_at, List.getElem?_eq_none h] at hu; cases hu
  have := h (xs.length + j) u (by rw [vals_at, List.append_assoc, List.getElem?_append_right (by omega), Nat.add_sub_cancel_left, List.getElem?_append_left hj]; rw [vals_at] at hu; exact hu)
  rw [Nat.add_assoc]
  exact this
theorem part_ok {Gs : List Gl} {ds : List (List Int)} (hf : FontB Gs ds) {r : Ref} (hr : RefOk Gs r) : PartOk Gs r ∧ (0 ≤ r.1 ∧ r.1 ≤ 65535) := by
  obtain ⟨⟨x, hx, hl, h2⟩, a, b, c, d⟩ := hr
  have hg : (Gs.getD x ([], [])).1.length ≤ 3 ∧ ∀ c ∈ (Gs.getD x ([], [])).1, ConOk c := by
    rcases hf.2.2 x hl with ⟨h, _⟩ | ⟨_, h, h', _⟩ | ⟨_, h, _⟩
    · rw [h]; exact ⟨by simp, fun c hc => by cases hc⟩
    · exact ⟨h.2, h'⟩
    · rw [h2] at h; simp at h
  have hxe : r.1.toNat = x := by rw [hx]; rfl
  have hok := pathC_ok hg.2
  have hln := pathC_len _ hg.2
  have h9 := hf.2.1
  refine ⟨⟨a, b, c, d, ?_, fun y hy => ?_⟩, by omega⟩
  · unfold partOf
    rw [hxe, List.length_map]; omega
  · unfold partOf at hy
    rw [hxe] at hy
    obtain ⟨s, hs, rfl⟩ := List.mem_map.1 hy
    have h4 := (hok s hs).2
    have hz : Q4 (0, 0) := ⟨⟨by omega, by omega⟩, by omega, by omega⟩
    have hq : ∀ i, Q4 (s.2.getD i (0, 0)) := fun i => by
      by_cases hi : i < s.2.length
      · exact h4 _ (RowG.getD_mem _ _ _ hi)
      · rw [List.getD_eq_getElem?_getD, List.getElem?_eq_none (by omega)]; exact hz
    exact ⟨hq 0, hq 1, hz⟩
/-- a glyph without parts -/
theorem load_one (B fb bb g n c lb lc N x st dep : Nat) (locs : List Int) (ds : List (List Int)) (bc : List Value) (buf : Value) (SL : List Rec) (Gs : List Gl) (w : World)
    (hF : Fnt fb g n c lb lc N locs ds.flatten w) (h1 : fb < B) (h2 : g < B) (h3 : lb < B) (hBw : B ≤ w.heap.size) (hB : Buf w B bb bc SL) (hb0 : bc[0]? = some buf) (hSL : SL.length ≤ 500)
    (hf : FontB Gs ds) (hN : N = Gs.length) (hL : LocB ds locs) (hn : n = ds.flatten.length) (hnc : n ≤ c) (hn6 : n ≤ 60000) (hx : x < N) (hG : (Gs.getD x ([], [])).2 = []) :
    Calls Tryd.prog 23 #[.pointer (some ⟨fb, 0, none⟩), .pointer (some ⟨bb, 0, none⟩), .int .u16 (x : Int), .int .u32 (st : Int), .int .u32 (dep : Int)] w (LoadP B bb bc (SL ++ (pathC (Gs.getD x ([], [])).1).map recOf) w) := by
  have hxd : x < ds.length := by rw [hf.1, ← hN]; exact hx
  have h9 := hf.2.1
  have hsp := flat_split ds x hxd
  have hl0 := hL.2 x (by omega)
  have hl1 := hL.2 (x + 1) (by omega)
  rw [take_flat ds x hxd, List.length_append] at hl1
  have hfl : (ds.take x).flatten.length + (ds.getD x []).length ≤ n := by rw [hn, hsp, List.length_append, List.length_append]; omega
  have hA : At w g ((ds.take x).flatten.length) (vals .u8 (ds.getD x [])) := by
    have := hF.byts
    rw [hsp] at this
    have := at_piece this
    rwa [Nat.zero_add] at this
  rcases hf.2.2 x (by rw [← hN]; exact hx) with ⟨e1, e2, e3⟩ | ⟨_, ⟨k0, k3⟩, hok, hcod, _⟩ | ⟨_, h, _⟩
  · rw [e1]
    rw [e3] at hl1 hfl
    have := load_empty B fb bb g n c lb lc N x _ st dep locs ds.flatten bc buf SL w hF hB hb0 (by omega) (by rw [hL.1, hf.1, hN]) hx hl0 (by rw [hl1]; rfl) (by rw [List.length_nil] at hfl; omega) hnc hn6
    simpa [pathC] using this
  · exact load_simple B fb bb g n c lb lc N x _ _ st dep locs ds.flatten _ bc buf SL _ w hF h1 h2 h3 hBw hB hb0 hSL (by omega) (by rw [hL.1, hf.1, hN]) hx hl0 hl1 hfl hnc hn6 rfl hA hcod k0 k3 hok
  · rw [hG] at h; simp at h
/-- a glyph's steps as the package keeps them -/
def recG (Gs : List Gl) (G : Gl) : List Rec := if G.2 = [] then (pathC G.1).map recOf else recsR Gs G.2
theorem load_any (B fb bb g n c lb lc N x : Nat) (locs : List Int) (ds : List (List Int)) (bc : List Value) (buf : Value) (SL : List Rec) (Gs : List Gl) (w : World)
    (hF : Fnt fb g n c lb lc N locs ds.flatten w) (h1 : fb < B) (h2 : g < B) (h3 : lb < B) (hBw : B ≤ w.heap.size) (hB : Buf w B bb bc SL) (hb0 : bc[0]? = some buf) (hlen6 : 600 ≤ bc.length) (hSL : SL.length ≤ 100)
    (hf : FontB Gs ds) (hN : N = Gs.length) (hL : LocB ds locs) (hn : n = ds.flatten.length) (hnc : n ≤ c) (hn6 : n ≤ 60000) (hx : x < N) :
    Calls Tryd.prog 23 #[.pointer (some ⟨fb, 0, none⟩), .pointer (some ⟨bb, 0, none⟩), .int .u16 (x : Int), .int .u32 0, .int .u32 0] w (RestP B bb (SL ++ recG Gs (Gs.getD x ([], []))) w) := by
  have hxg : x < Gs.length := by rw [← hN]; exact hx
  by_cases hG : (Gs.getD x ([], [])).2 = []
  · have := load_one B fb bb g n c lb lc N x 0 0 locs ds bc buf SL Gs w hF h1 h2 h3 hBw hB hb0 (by omega) hf hN hL hn hnc hn6 hx hG
    unfold recG
    rw [if_pos hG]
    refine this.mono ?_
    rintro e w' ⟨he, bc', _, hb, hbel⟩
    exact ⟨he, bc', hb, hbel⟩
  · unfold recG
    rw [if_neg hG]
    have hxd : x < ds.length := by rw [hf.1]; exact hxg
    have h9 := hf.2.1
    have hsp := flat_split ds x hxd
    have hl0 := hL.2 x (by omega)
    have hl1 := hL.2 (x + 1) (by omega)
    rw [take_flat ds x hxd, List.length_append] at hl1
    have hfl : (ds.take x).flatten.length + (ds.getD x []).length ≤ n := by rw [hn, hsp, List.length_append, List.length_append]; omega
    have hA : At w g ((ds.take x).flatten.length) (vals .u8 (ds.getD x [])) := by
      have := hF.byts
      rw [hsp] at this
      have := at_piece this
      rwa [Nat.zero_add] at this
    rcases hf.2.2 x hxg with ⟨_, e2, _⟩ | ⟨e2, _⟩ | ⟨_, ⟨k0, k3⟩, hro, hcod, hl1000⟩
    · exact absurd e2 hG
    · exact absurd e2 hG
    · refine load_comp B fb bb g n c lb lc N x _ _ (Gs.getD x ([], [])).2.length locs ds.flatten _ bc buf SL Gs _ w hF h1 h2 h3 hBw hB hb0 hlen6 hSL (by omega) (by rw [hL.1, hf.1, hN]) hx hl0 hl1 hfl hnc hn6 rfl hA hcod rfl k3 hl1000 (fun r hr => (part_ok hf (hro r hr)).1) (fun r hr => (part_ok hf (hro r hr)).2) (fun j hj W' bd' L a b d e => ?_)
      obtain ⟨⟨y, hy, hyl, hy2⟩, _⟩ := hro _ (RowG.getD_mem (Gs.getD x ([], [])).2 j (0, 0, 0, 0, 0) hj)
      unfold partOf
      rw [hy]
      exact load_one B fb bb g n c lb lc N y _ 1 locs ds bd' buf L Gs W' (hF.below d h1 h2 h3) h1 h2 h3 (Nat.le_trans hBw d.size) a (b.trans hb0) (by omega) hf hN hL hn hnc hn6 (by rw [hN]; exact hyl) hy2
end Go.Proofs.YtdeaodgcdacleaaDoor.LdG
namespace Go.Proofs.YtdeaodgcdacleaaDoor.LdH
open Go.ChangeShapes Go.WideShapes Go.ChangeAt Go.RowKit
open Lst Mem RowG SpecB GlyM DatE ItC PthA PthC LdA LdB LdC LdS LdD LdE LdF LdG Trn RefE
set_option linter.unusedSimpArgs false
set_option linter.unusedVariables false
abbrev FT : TypeId := 116
/-- a font, a buffer, all nought -/
noncomputable def fz : Array Value := match (Tryd.prog.info? FT).bind (·.zero) with
  | some (.agg cs) => cs
  | _ => #[]
theorem fz_run (w : World) : (zeroValue FT).run Tryd.prog w = .ok (.agg fz) w := by kernel_rfl
theorem fz0 : fz[0]? = some (.slice none 0 0) := by kernel_rfl
theorem fz34 : fz[34]? = some (.slice none 0 0) := by kernel_rfl
theorem bz0 : Tryd.zeroCells136[0]? = some (.slice none 0 0) := by kernel_rfl
theorem bz1 : Tryd.zeroCells136[1]? = some (.slice none 0 0) := by kernel_rfl
theorem bz_le : Nat.ble 600 Tryd.zeroCells136.size = true := by kernel_rfl
/-- a list of rows of bytes -/
def Mat (w : World) (v : Value) (ds : List (List Int)) : Prop :=
  ∃ A c, v = .slice A ds.length c ∧ ∀ i, i < ds.length → ∃ h off Ai ni ci, A = some ⟨h, off, none⟩ ∧ w.cell? ⟨h, off + i, none⟩ = some (.slice Ai ni ci) ∧ Rd w Ai ni ci (vals .u8 (ds.getD i []))
theorem Mat.below {w w' : World} {v : Value} {ds : List (List Int)} (h : Mat w v ds) (hb : Below w.heap.size w w') : Mat w' v ds := by
  obtain ⟨A, c, hv, hi⟩ := h
  refine ⟨A, c, hv, fun i hl => ?_⟩
  obtain ⟨h, off, Ai, ni, ci, ha, hc, hr⟩ := hi i hl
  exact ⟨h, off, Ai, ni, ci, ha, by rw [hb.cell (World.block_lt_of_cell? w _ hc)]; exact hc, hr.keep hb⟩
theorem u8info : (Tryd.prog.info? 5).map (fun i => (i.zero, i.size, i.bytes)) = some (some (.int .u8 0), 1, 1) := by kernel_rfl
theorem u32info : (Tryd.prog.info? 22).map (fun i => (i.zero, i.size, i.bytes)) = some (some (.int .u32 0), 1, 4) := by kernel_rfl
def locsOf (ds : List (List Int)) (k : Nat) : List Int := (List.range (k + 1)).map fun i => ((ds.take i).flatten.length : Int)
theorem locs_len (ds : List (List Int)) (k : Nat) : (locsOf ds k).length = k + 1 := by simp [locsOf]
theorem locs_succ (ds : List (List Int)) (k : Nat) : locsOf ds (k + 1) = locsOf ds k ++ [((ds.take (k + 1)).flatten.length : Int)] := by simp [locsOf, List.range_succ]
theorem locs_ok (ds : List (List Int)) : LocB ds (locsOf ds ds.length) := ⟨locs_len _ _, fun i hi => by
  unfold locsOf
  rw [List.getD_eq_getElem?_getD, List.getElem?_map, List.getElem?_range (by omega)]
  rfl⟩
theorem vals_app (k : IntKind) (a b : List Int) : vals k (a ++ b) = vals k a ++ vals k b := by simp [vals]
theorem glyb_len {Gs : List Gl} {ds : List (List Int)} (hf : FontB Gs ds) (k : Nat) (hk : k ≤ ds.length) : (ds.take k).flatten.length ≤ 1000 * k := by
  induction k with
  | zero => simp
  | succ k ih =>
    have h1 := ih (by omega)
    rw [take_flat ds k (by omega), List.length_append]
    have h2 : (ds.getD k []).length ≤ 1000 := by
      rcases hf.2.2 k (by rw [← hf.1]; omega) with ⟨_, _, h⟩ | ⟨_, _, _, _, h⟩ | ⟨_, _, _, _, h⟩
      · rw [h]; simp
      · exact h
      · exact h
    omega
abbrev T8 : TypeId := 5
abbrev T32 : TypeId := 22
/-- the font so far: its box, its bytes, its places -/
def FS (w0 : World) (fb : Nat) (by' locs : List Int) (W : World) : Prop :=
  ∃ (fcs : List Value) (vb vl : Value), Blk fb FT fcs W ∧ w0.heap.size ≤ fb ∧ fcs[0]? = some vb ∧ fcs[34]? = some vl ∧ W.ownsRow w0.heap.size T8 1 vb by'.length (vals .u8 by') ∧ vb ≠ .slice none 0 0 ∧ W.ownsRow w0.heap.size T32 1 vl locs.length (vals .u32 locs) ∧ Below w0.heap.size w0 W
theorem own_other {w w' : World} {B B' n sz m sz' : Nat} {e e' : TypeId} {v v2 : Value} {xs ys : List Value} (h : w.ownsRow B e sz v n xs) (h2 : w.ownsRow B' e' sz' v2 m ys) (hne : e ≠ e') (hg : w.grownBy w' v2.ownBlock) : w'.ownsRow B e sz v n xs :=
  GlyM.own_block h (fun g hg' => hg.block g (own_isT h hg').1.lt (fun e => ((own_isT h hg').1.ne (own_isT h2 e.symm).1 hne) rfl))
theorem blk_other {w w' : World} {B m sz b : Nat} {e T : TypeId} {cs : List Value} {v2 : Value} {ys : List Value} (h : Blk b T cs w) (h2 : w.ownsRow B e sz v2 m ys) (hne : T ≠ e) (hg : w.grownBy w' v2.ownBlock) : Blk b T cs w' :=
  blk_grown h hg (fun e => ((own_isT h2 e).1.ne ⟨_, h⟩ (Ne.symm hne)) rfl)
theorem own_setb {w : World} {B n sz b i : Nat} {e T : TypeId} {v u : Value} {xs cs : List Value} (h : w.ownsRow B e sz v n xs) (hb : Blk b T cs w) (hne : e ≠ T) : (w.setCell ⟨b, i, none⟩ u).ownsRow B e sz v n xs :=
  GlyM.own_block h (fun g hg => Below.heap_setCell _ _ _ _ (fun e => ((own_isT h hg).1.ne ⟨_, hb⟩ hne) e))
def ZZP (B : Nat) (L : List Rec) (w : World) (e : Ending) (w' : World) : Prop := ∃ v, e = .returned (.tuple #[v, .nilIface]) ∧ Segs w' B v L ∧ Below w.heap.size w w'
set_option maxHeartbeats 40000000 in
set_option maxRecDepth 100000 in
theorem zz_any (v : Value) (x : Nat) (ds : List (List Int)) (Gs : List Gl) (w : World) (hm : Mat w v ds) (hf : FontB Gs ds) (hx : x < Gs.length) :
    Calls Tryd.prog 18 #[v, .int .u16 (x : Int)] w (ZZP w.heap.size (recG Gs (Gs.getD x ([], []))) w) := by
  obtain ⟨A, cA, rfl, hrows⟩ := hm
  obtain ⟨N, hN⟩ : ∃ N, N = ds.length := ⟨_, rfl⟩
  rw [← hN] at hrows
  rw [← hN]
  have hN9 : N ≤ 9 := by rw [hN, hf.1]; exact hf.2.1
  have HR := Lib.hid (And.intro hrows (And.intro hN hf))
  have zr := fz_run
  clear hrows hN hf
  go_enter Tryd.func18, Tryd.ntmps18
  go_upto_region 2 with (fail)
  obtain ⟨fb, hfb⟩ : ∃ f, f = w.heap.size := ⟨_, rfl⟩
  obtain ⟨W1, hW1⟩ : ∃ X, X = w.alloc (.cells fz FT) := ⟨_, rfl⟩
  have hb1 : Blk fb FT fz.toList W1 := by rw [hW1, hfb]; exact Blk.new_ w fz FT
  have hd1 : Below w.heap.size w W1 := by rw [hW1]; exact bel_made w fz FT
  have hs1 : W1.heap.size = w.heap.size + 1 := by rw [hW1]; simp
  rw [← hW1, ← hfb]
  have k0 := hb1.cell (i := 0) (by simpa using fz0)
  have k34 := hb1.cell (i := 34) (by simpa using fz34)
  have kf := hb1.frozen
  have H1 := Lib.hid (And.intro hb1 (And.intro hd1 (And.intro hs1 hfb)))
  clear hW1 hb1 hd1 hs1 hfb
  have hfl : fb < W1.heap.size := by rw [H1.out.2.2.1, H1.out.2.2.2]; omega
  go_upto_region 3 with (fail)
  obtain ⟨lb, hlb⟩ : ∃ l, l = W1.heap.size := ⟨_, rfl⟩
  obtain ⟨V1, hV1⟩ : ∃ X, X = W1.setCell ⟨fb, 34, none⟩ (.slice (some ⟨lb, 0, none⟩) 1 1) := ⟨_, rfl⟩
  have hvs : V1.heap.size = lb := by rw [hV1, hlb]; simp [World.setCell]
  have hvb : Blk fb FT (fz.toList.set 34 (.slice (some ⟨lb, 0, none⟩) 1 1)) V1 := by rw [hV1]; exact H1.out.1.set_ 34 _
  have hvd : Below w.heap.size w V1 := by rw [hV1]; exact H1.out.2.1.setCell (p := ⟨fb, 34, none⟩) (by show w.heap.size ≤ fb; rw [H1.out.2.2.2]; exact Nat.le_refl _) _
  obtain ⟨W2, hW2⟩ : ∃ X, X = V1.alloc (.cells #[.int .u32 0] T32) := ⟨_, rfl⟩
  have hb2 : Blk fb FT (fz.toList.set 34 (.slice (some ⟨lb, 0, none⟩) 1 1)) W2 := by rw [hW2]; exact hvb.keep (bel_made V1 _ _)
  have ho2 : W2.ownsRow w.heap.size T32 1 (.slice (some ⟨lb, 0, none⟩) 1 1) 1 (vals .u32 [0]) := by
    rw [hW2, ← hvs]
    exact ⟨rfl, .inr ⟨_, 1, _, rfl, hvd.size, heap_alloc_new _ _, Nat.le_refl _, by unfold maxLen; omega, rfl, by simp [vals]⟩⟩
  have hd2 : Below w.heap.size w W2 := by rw [hW2]; exact hvd.trans ((bel_made V1 _ _).mono hvd.size)
  have hs2 : fb < W2.heap.size := by rw [hW2]; have := hvb.lt; simp; omega
  rw [← hlb]
  rw [← hV1, ← hW2]
  clear hW2 hV1 hvs hvb hvd k0 k34 kf hlb hfl
  have k0 := hb2.cell (i := 0) (u := .slice none 0 0) (by rw [List.getElem?_set_ne (by decide)]; simpa using fz0)
  have kf := hb2.frozen
  have H2 := Lib.hid (And.intro hb2 (And.intro ho2 hd2))
  clear hb2 ho2 hd2
  go_upto_region 4 with (fail)
  obtain ⟨gb, hgb⟩ : ∃ l, l = W2.heap.size := ⟨_, rfl⟩
  rw [← hgb]
  obtain ⟨V2, hV2⟩ : ∃ X, X = W2.setCell ⟨fb, 0, none⟩ (.slice (some ⟨gb, 0, none⟩) 0 0) := ⟨_, rfl⟩
  have hvs : V2.heap.size = gb := by rw [hV2, hgb]; simp [World.setCell]
  have hvb : Blk fb FT ((fz.toList.set 34 (.slice (some ⟨lb, 0, none⟩) 1 1)).set 0 (.slice (some ⟨gb, 0, none⟩) 0 0)) V2 := by rw [hV2]; exact H2.out.1.set_ 0 _
  have hvd : Below w.heap.size w V2 := by rw [hV2]; exact H2.out.2.2.setCell (p := ⟨fb, 0, none⟩) (by show w.heap.size ≤ fb; rw [H1.out.2.2.2]; exact Nat.le_refl _) _
  have hvo : V2.ownsRow w.heap.size T32 1 (.slice (some ⟨lb, 0, none⟩) 1 1) 1 (vals .u32 [0]) := by rw [hV2]; exact own_setb H2.out.2.1 H2.out.1 (by decide)
  obtain ⟨W3, hW3⟩ : ∃ X, X = V2.alloc (.cells #[] T8) := ⟨_, rfl⟩
  have hFS : FS w fb [] (locsOf ds 0) W3 := by
    refine ⟨(fz.toList.set 34 (.slice (some ⟨lb, 0, none⟩) 1 1)).set 0 (.slice (some ⟨gb, 0, none⟩) 0 0), .slice (some ⟨gb, 0, none⟩) 0 0, .slice (some ⟨lb, 0, none⟩) 1 1, ?_, by rw [H1.out.2.2.2]; exact Nat.le_refl _, ?_, ?_, ?_, (fun h => by cases h), ?_, ?_⟩
    · rw [hW3]; exact hvb.keep (bel_made V2 _ _)
    · exact List.getElem?_set_self (by rw [List.length_set]; have := (List.getElem?_eq_some_iff.1 (show fz.toList[0]? = some _ from by simpa using fz0)).1; exact this)
    · rw [List.getElem?_set_ne (by decide)]
      exact List.getElem?_set_self (by have := (List.getElem?_eq_some_iff.1 (show fz.toList[34]? = some _ from by simpa using fz34)).1; exact this)
    · rw [hW3, ← hvs]
      exact World.ownsRow_made (base := w.heap.size) (e := T8) (size := 1) V2 #[] 0 hvd.size (by omega) (by simp)
    · rw [hW3]; exact own_keep hvo (bel_made V2 _ _)
    · rw [hW3]; exact hvd.trans ((bel_made V2 _ _).mono hvd.size)
  rw [← hV2, ← hW3]
  have HFS := Lib.hid hFS
  clear hFS hW3 hV2 hvs hvb hvd hvo k0 kf hgb hs2 H2 H1
  obtain ⟨i8, hi8, iz8, iy8, ib8⟩ := info_parts u8info
  obtain ⟨i32, hi32, iz32, iy32, ib32⟩ := info_parts u32info
  go_upto_region 5 with (fail)
  go_loopw [26] (fun i wr => ∃ k : Nat, i = .int .i64 (k : Int) ∧ k ≤ N ∧ FS w fb (ds.take k).flatten (locsOf ds k) wr) (fun i _ => N - (intOf i).toNat)
  case atStart => exact ⟨0, rfl, Nat.zero_le _, HFS.out⟩
  case round =>
    obtain ⟨k, rfl, hk, hFS⟩ := hrel
    obtain ⟨fcs, vb, vl, hblk, hfb, hc0, hc34, ho8, hnn, ho32, hbel⟩ := hFS
    by_cases hlt : k < N
    · have hkd : k < ds.length := by rw [← HR.out.2.1]; exact hlt
      obtain ⟨h, off, Ai, ni, ci, hAe, hcl, hr⟩ := HR.out.1 k hlt
      have htf := take_flat ds k hkd
      have hl1 := glyb_len HR.out.2.2 k (by omega)
      have hl2 := glyb_len HR.out.2.2 (k + 1) hkd
      rw [htf, List.length_append] at hl2
      have hrn : (ds.getD k []).length = ni := by have := hr.1; rwa [vals_len] at this
      have c1 : wr.cell? ⟨h, off + k, none⟩ = some (.slice Ai ni ci) := (hbel.cell (p := ⟨h, off + k, none⟩) (World.block_lt_of_cell? w _ hcl)).trans hcl
      have hr1 : Rd wr Ai ni ci (vals .u8 (ds.getD k [])) := hr.keep hbel
      obtain ⟨g8, cb, rfl, _⟩ := open_row ho8 hnn
      obtain ⟨nb, hnb⟩ : ∃ n, (ds.take k).flatten.length = n := ⟨_, rfl⟩
      rw [hnb] at hc0 ho8 hl1 hl2
      have hl3 : nb + ni ≤ 9000 := by rw [hrn] at hl2; omega
      have k0 := hblk.cell hc0
      have HK := Lib.hid (And.intro hblk (And.intro hfb (And.intro hc0 (And.intro hc34 (And.intro ho8 (And.intro ho32 (And.intro hbel (And.intro hr1 (And.intro htf (And.intro hrn hnb))))))))))
      have hbs := hbel.size
      have hA2 := Lib.hid hAe
      clear hblk hfb hc0 hc34 ho8 hnn ho32 hbel hr hr1 htf hrn hnb hcl hkd
      subst hAe
      go_upto_region 8 with ((with_reducible refine Gate.append ?_); refine app_any rfl _ _ 38 rfl w.heap.size T8 i8 (.int .u8 0) 1 Tryd.underlying38 hi8 iz8 iy8 ib8 rfl _ _ _ rfl HK.out.2.2.2.2.1 Ai ni ci (vals .u8 (ds.getD k [])) rfl HK.out.2.2.2.2.2.2.2.1 (fun u hu => by (obtain ⟨y, _, rfl⟩ := List.mem_map.1 hu; rfl)) (by unfold maxLen; omega) (by omega) hbs ?_; intro v' Z own' grow nil'; obtain ⟨g9, cb9, hv9, _⟩ := open_row own' (fun h => by (have := (nil'.1 h).1; cases this)); subst hv9; have hB9 := blk_other HK.out.1 HK.out.2.2.2.2.1 (by decide) grow; have k9 := hB9.cell HK.out.2.2.1; have kf9 := hB9.frozen)
      obtain ⟨Y, hY⟩ : ∃ X, X = Z.setCell ⟨fb, 0, none⟩ (.slice (some ⟨g9, 0, none⟩) (nb + ni) cb9) := ⟨_, rfl⟩
      have hBY : Blk fb FT (fcs.set 0 (.slice (some ⟨g9, 0, none⟩) (nb + ni) cb9)) Y := by rw [hY]; exact hB9.set_ 0 _
      have ho8Y : Y.ownsRow w.heap.size T8 1 (.slice (some ⟨g9, 0, none⟩) (nb + ni) cb9) (nb + ni) (vals .u8 (ds.take k).flatten ++ vals .u8 (ds.getD k [])) := by rw [hY]; exact own_setb own' hB9 (by decide)
      have ho32Y : Y.ownsRow w.heap.size T32 1 vl (locsOf ds k).length (vals .u32 (locsOf ds k)) := by rw [hY]; exact own_setb (own_other HK.out.2.2.2.2.2.1 HK.out.2.2.2.2.1 (by decide) grow) hB9 (by decide)
      have hdY : Below w.heap.size w Y := by rw [hY]; exact (HK.out.2.2.2.2.2.2.1.grown grow hbs (fun g hg => (own_isT HK.out.2.2.2.2.1 hg).2)).setCell (p := ⟨fb, 0, none⟩) HK.out.2.1 _
      rw [← hY]
      clear hY own' grow nil' hB9 k9 kf9 k0 c1
      have hlen0 := (List.getElem?_eq_some_iff.1 HK.out.2.2.1).1
      have hc0Y : (fcs.set 0 (.slice (some ⟨g9, 0, none⟩) (nb + ni) cb9))[0]? = some (.slice (some ⟨g9, 0, none⟩) (nb + ni) cb9) := List.getElem?_set_self hlen0
      have hc34Y : (fcs.set 0 (.slice (some ⟨g9, 0, none⟩) (nb + ni) cb9))[34]? = some vl := by rw [List.getElem?_set_ne (by decide)]; exact HK.out.2.2.2.1
      have HY := Lib.hid (And.intro hBY (And.intro hc0Y (And.intro hc34Y (And.intro ho8Y (And.intro ho32Y hdY)))))
      have hbsY := hdY.size
      have wnb : IntKind.u32.wrap ((nb : Int) + (ni : Int)) = (nb : Int) + (ni : Int) := IntWalk.u32_in _ (by omega)
      have hdr : Below w.heap.size w Y.drew := hdY.drew
      clear hBY hc0Y hc34Y ho8Y ho32Y hdY hlen0
      refine Tail.start (S := (fun w' => Blk fb FT (fcs.set 0 (.slice (some ⟨g9, 0, none⟩) (nb + ni) cb9)) w' ∧ Below w.heap.size w w')) (tl := [20]) (by kernel_rfl) ⟨HY.out.1, hdr⟩ (fun hHeld => ?_)
      refine Tail.take (i := 0) (v := ?vq1) rfl (by kernel_rfl) (by kernel_rfl) (by kernel_rfl) (by kernel_rfl) (by kernel_rfl) (fun _ _ _ h => h) (Or.inl ⟨by rfl, ?hyq1⟩) (by assumption) ?restq1
      case hyq1 => (intro w1 hS; go_simp <;> with_reducible rfl)
      try simp only [Act.put, List.getElem_toArray, List.getElem_cons_zero, List.getElem_cons_succ, List.setIfInBounds_toArray, List.set_cons_zero, List.set_cons_succ]
      refine Tail.take (i := 1) (v := ?vq2) rfl (by kernel_rfl) (by kernel_rfl) (by kernel_rfl) (by kernel_rfl) (by kernel_rfl) (fun _ _ _ h => h) (Or.inl ⟨by rfl, ?hyq2⟩) (by assumption) ?restq2
      case hyq2 => (intro w1 hS; go_simp <;> with_reducible rfl)
      try simp only [Act.put, List.getElem_toArray, List.getElem_cons_zero, List.getElem_cons_succ, List.setIfInBounds_toArray, List.set_cons_zero, List.set_cons_succ]
      refine Tail.take (i := 2) (v := ?vq3) rfl (by kernel_rfl) (by kernel_rfl) (by kernel_rfl) (by kernel_rfl) (by kernel_rfl) (fun _ _ _ h => h) (Or.inl ⟨by rfl, ?hyq3⟩) (by assumption) ?restq3
      case hyq3 => (intro w1 hS; go_simp <;> with_reducible rfl)
      try simp only [Act.put, List.getElem_toArray, List.getElem_cons_zero, List.getElem_cons_succ, List.setIfInBounds_toArray, List.set_cons_zero, List.set_cons_succ]
      refine Tail.take (i := 3) (v := ?vq4) rfl (by kernel_rfl) (by kernel_rfl) (by kernel_rfl) (by kernel_rfl) (by kernel_rfl) (fun _ _ _ h => h) (Or.inl ⟨by rfl, ?hyq4⟩) (by assumption) ?restq4
      case hyq4 => (intro w1 hS; go_simp <;> with_reducible rfl)
      try simp only [Act.put, List.getElem_toArray, List.getElem_cons_zero, List.getElem_cons_succ, List.setIfInBounds_toArray, List.set_cons_zero, List.set_cons_succ]
      refine Tail.take (i := 4) (v := ?vq5) rfl (by kernel_rfl) (by kernel_rfl) (by kernel_rfl) (by kernel_rfl) (by kernel_rfl) (fun _ _ _ h => h) (Or.inl ⟨by rfl, ?hyq5⟩) (by assumption) ?restq5
      case hyq5 => (intro w1 hS; go_simp <;> with_reducible rfl)
      try simp only [Act.put, List.getElem_toArray, List.getElem_cons_zero, List.getElem_cons_succ, List.setIfInBounds_toArray, List.set_cons_zero, List.set_cons_succ]
      refine Tail.take (i := 5) (v := ?vq6) rfl (by kernel_rfl) (by kernel_rfl) (by kernel_rfl) (by kernel_rfl) (by kernel_rfl) (fun _ _ _ h => h) (Or.inl ⟨by rfl, ?hyq6⟩) (by assumption) ?restq6
      case hyq6 => (intro w1 hS; go_simp <;> with_reducible rfl)
      try simp only [Act.put, List.getElem_toArray, List.getElem_cons_zero, List.getElem_cons_succ, List.setIfInBounds_toArray, List.set_cons_zero, List.set_cons_succ]
      refine Tail.take (i := 6) (v := ?vq7) rfl (by kernel_rfl) (by kernel_rfl) (by kernel_rfl) (by kernel_rfl) (by kernel_rfl) (fun _ _ _ h => h) (Or.inl ⟨by rfl, ?hyq7⟩) (by assumption) ?restq7
      case hyq7 => (intro w1 hS; have k := hS.1.cell HY.out.2.2.1; go_simp <;> with_reducible rfl)
      try simp only [Act.put, List.getElem_toArray, List.getElem_cons_zero, List.getElem_cons_succ, List.setIfInBounds_toArray, List.set_cons_zero, List.set_cons_succ]
      refine Tail.take (i := 7) (v := ?vq8) rfl (by kernel_rfl) (by kernel_rfl) (by kernel_rfl) (by kernel_rfl) (by kernel_rfl) (fun _ _ _ h => h) (Or.inl ⟨by rfl, ?hyq8⟩) (by assumption) ?restq8
      case hyq8 => (intro w1 hS; go_simp <;> with_reducible rfl)
      try simp only [Act.put, List.getElem_toArray, List.getElem_cons_zero, List.getElem_cons_succ, List.setIfInBounds_toArray, List.set_cons_zero, List.set_cons_succ]
      refine Tail.take (i := 8) (v := ?vq9) rfl (by kernel_rfl) (by kernel_rfl) (by kernel_rfl) (by kernel_rfl) (by kernel_rfl) (fun _ _ _ h => h) (Or.inl ⟨by rfl, ?hyq9⟩) (by assumption) ?restq9
      case hyq9 => (intro w1 hS; go_simp <;> with_reducible rfl)
      try simp only [Act.put, List.getElem_toArray, List.getElem_cons_zero, List.getElem_cons_succ, List.setIfInBounds_toArray, List.set_cons_zero, List.set_cons_succ]
      refine Tail.take (i := 9) (v := ?vq10) rfl (by kernel_rfl) (by kernel_rfl) (by kernel_rfl) (by kernel_rfl) (by kernel_rfl) (fun _ _ _ h => h) (Or.inl ⟨by rfl, ?hyq10⟩) (by assumption) ?restq10
      case hyq10 => (intro w1 hS; go_simp <;> with_reducible rfl)
      try simp only [Act.put, List.getElem_toArray, List.getElem_cons_zero, List.getElem_cons_succ, List.setIfInBounds_toArray, List.set_cons_zero, List.set_cons_succ]
      refine Tail.take (i := 10) (v := ?vq11) rfl (by kernel_rfl) (by kernel_rfl) (by kernel_rfl) (by kernel_rfl) (by kernel_rfl) (fun _ _ _ h => h) (Or.inl ⟨by rfl, ?hyq11⟩) (by assumption) ?restq11
      case hyq11 => (intro w1 hS; go_simp <;> with_reducible rfl)
      try simp only [Act.put, List.getElem_toArray, List.getElem_cons_zero, List.getElem_cons_succ, List.setIfInBounds_toArray, List.set_cons_zero, List.set_cons_succ]
      refine Tail.take (i := 11) (v := ?vq12) rfl (by kernel_rfl) (by kernel_rfl) (by kernel_rfl) (by kernel_rfl) (by kernel_rfl) (fun _ _ _ h => h) (Or.inl ⟨by rfl, ?hyq12⟩) (by assumption) ?restq12
      case hyq12 => (intro w1 hS; have k := hS.1.cell HY.out.2.1; go_simp <;> with_reducible rfl)
      try simp only [Act.put, List.getElem_toArray, List.getElem_cons_zero, List.getElem_cons_succ, List.setIfInBounds_toArray, List.set_cons_zero, List.set_cons_succ]
      refine Tail.take (i := 12) (v := ?vq13) rfl (by kernel_rfl) (by kernel_rfl) (by kernel_rfl) (by kernel_rfl) (by kernel_rfl) (fun _ _ _ h => h) (Or.inl ⟨by rfl, ?hyq13⟩) (by assumption) ?restq13
      case hyq13 => (intro w1 hS; go_simp <;> with_reducible rfl)
      try simp only [Act.put, List.getElem_toArray, List.getElem_cons_zero, List.getElem_cons_succ, List.setIfInBounds_toArray, List.set_cons_zero, List.set_cons_succ]
      refine Tail.take (i := 13) (v := ?vq14) rfl (by kernel_rfl) (by kernel_rfl) (by kernel_rfl) (by kernel_rfl) (by kernel_rfl) (fun _ _ _ h => h) (Or.inl ⟨by rfl, ?hyq14⟩) (by assumption) ?restq14
      case hyq14 => (intro w1 hS; go_simp <;> with_reducible rfl)
      try simp only [Act.put, List.getElem_toArray, List.getElem_cons_zero, List.getElem_cons_succ, List.setIfInBounds_toArray, List.set_cons_zero, List.set_cons_succ]
      refine Tail.ready (rs := [14]) (by kernel_rfl) (by simp) (Tail.AllReadyL.cons rfl (fun K hK => ?_) Tail.AllReadyL.nil)
      go_simp
      refine hK.out _ _ ⟨hHeld.1.keep (bel_made _ _ _), hHeld.2.trans ((bel_made _ _ _).mono (by exact hbsY))⟩ (fun hHeld => ?_)
      clear hK K
      try simp only [Act.put, List.getElem_toArray, List.getElem_cons_zero, List.getElem_cons_succ, List.setIfInBounds_toArray, List.set_cons_zero, List.set_cons_succ]
      obtain ⟨Q, hQ⟩ : ∃ X, X = (Y.alloc (.cells #[.int .u32 ((nb : Int) + (ni : Int))] T32)).drew := ⟨_, rfl⟩
      have ho8Q : Q.ownsRow w.heap.size T8 1 (.slice (some ⟨g9, 0, none⟩) (nb + ni) cb9) (nb + ni) (vals .u8 (ds.take k).flatten ++ vals .u8 (ds.getD k [])) := by rw [hQ]; exact own_keep HY.out.2.2.2.1 (Below.drew (bel_made Y _ _))
      have ho32Q : Q.ownsRow w.heap.size T32 1 vl (locsOf ds k).length (vals .u32 (locsOf ds k)) := by rw [hQ]; exact own_keep HY.out.2.2.2.2.1 (Below.drew (bel_made Y _ _))
      have hnQ : Blk Y.heap.size T32 [.int .u32 ((nb : Int) + (ni : Int))] Q := by rw [hQ]; exact Blk.new_ Y #[.int .u32 ((nb : Int) + (ni : Int))] T32
      rw [← hQ] at hHeld
      rw [← hQ]
      clear hQ
      have hbsQ := hHeld.2.size
      have HQ := Lib.hid (And.intro ho8Q (And.intro ho32Q hnQ))
      clear ho8Q ho32Q hnQ
      refine Tail.ready (rs := [15]) (by kernel_rfl) (by simp) (Tail.AllReadyL.cons rfl (fun K hK => ?_) Tail.AllReadyL.nil)
      refine step_app2 rfl (.tmp 47) (.tmp 55) 23 rfl w.heap.size T32 i32 (.int .u32 0) 1 4 Tryd.underlying23 hi32 iz32 iy32 ib32 rfl (by decide) vl _ _ rfl HQ.out.2.1 ⟨Y.heap.size, 0, none⟩ 1 1 [.int .u32 ((nb : Int) + (ni : Int))] rfl rfl (fun j u hu => by rw [Addr.add_lit, Nat.zero_add]; exact HQ.out.2.2.cell hu) (fun u hu => by (simp at hu; subst hu; rfl)) (by rw [locs_len]; unfold maxLen; omega) (by rw [locs_len]; omega) hbsQ ?_
      intro v10 Q2 own10 grow10 nil10 _
      obtain ⟨g10, cb10, hv10, _⟩ := open_row own10 (fun h => by (have := (nil10.1 h).2; cases this))
      subst hv10
      obtain ⟨M, hM⟩ : ∃ m, (locsOf ds k).length + 1 = m := ⟨_, rfl⟩
      rw [hM] at own10
      rw [hM]
      have hBQ2 := blk_other hHeld.1 HQ.out.2.1 (by decide) grow10
      refine hK.out _ _ ⟨hBQ2, hHeld.2.grown grow10 hbsQ (fun g hg => (own_isT HQ.out.2.1 hg).2)⟩ (fun hHeld => ?_)
      clear hK K
      try simp only [Act.put, List.getElem_toArray, List.getElem_cons_zero, List.getElem_cons_succ, List.setIfInBounds_toArray, List.set_cons_zero, List.set_cons_succ]
      have ho8Q2 := own_other HQ.out.1 HQ.out.2.1 (by decide) grow10
      have HQ2 := Lib.hid (And.intro ho8Q2 own10)
      clear ho8Q2 own10 grow10 nil10 hBQ2
      have HMl := Lib.hid hM
      clear hM
      refine Tail.ready (rs := [16]) (by kernel_rfl) (by simp) (Tail.AllReadyL.cons rfl (fun K hK => ?_) Tail.AllReadyL.nil)
      go_simp
      refine hK.out _ _ hHeld (fun hHeld => ?_)
      clear hK K
      try simp only [Act.put, List.getElem_toArray, List.getElem_cons_zero, List.getElem_cons_succ, List.setIfInBounds_toArray, List.set_cons_zero, List.set_cons_succ]
      refine Tail.ready (rs := [17]) (by kernel_rfl) (by simp) (Tail.AllReadyL.cons rfl (fun K hK => ?_) Tail.AllReadyL.nil)
      go_simp
      refine hK.out _ _ hHeld (fun hHeld => ?_)
      clear hK K
      try simp only [Act.put, List.getElem_toArray, List.getElem_cons_zero, List.getElem_cons_succ, List.setIfInBounds_toArray, List.set_cons_zero, List.set_cons_succ]
      refine Tail.ready (rs := [18]) (by kernel_rfl) (by simp) (Tail.AllReadyL.cons rfl (fun K hK => ?_) Tail.AllReadyL.nil)
      go_simp
      refine hK.out _ _ hHeld (fun hHeld => ?_)
      clear hK K
      try simp only [Act.put, List.getElem_toArray, List.getElem_cons_zero, List.getElem_cons_succ, List.setIfInBounds_toArray, List.set_cons_zero, List.set_cons_succ]
      refine Tail.ready (rs := [19]) (by kernel_rfl) (by simp) (Tail.AllReadyL.cons rfl (fun K hK => ?_) Tail.AllReadyL.nil)
      go_simp
      refine hK.out _ _ hHeld (fun hHeld => ?_)
      clear hK K
      try simp only [Act.put, List.getElem_toArray, List.getElem_cons_zero, List.getElem_cons_succ, List.setIfInBounds_toArray, List.set_cons_zero, List.set_cons_succ]
      refine Tail.ready (rs := [20]) (by kernel_rfl) (by simp) (Tail.AllReadyL.last rfl (by rfl) (fun K hK => ?_) Tail.AllReadyL.nil)
      have k34 := hHeld.1.cell HY.out.2.2.1
      have kf := hHeld.1.frozen
      have hfin : FS w fb (ds.take (k + 1)).flatten (locsOf ds (k + 1)) (Q2.setCell ⟨fb, 34, none⟩ (.slice (some ⟨g10, 0, none⟩) M cb10)) := by
        have hl34 := (List.getElem?_eq_some_iff.1 HY.out.2.2.1).1
        have hnb2 : (ds.take (k + 1)).flatten.length = nb + ni := by rw [HK.out.2.2.2.2.2.2.2.2.1, List.length_append, HK.out.2.2.2.2.2.2.2.2.2.1, HK.out.2.2.2.2.2.2.2.2.2.2]
        refine ⟨(fcs.set 0 (.slice (some ⟨g9, 0, none⟩) (nb + ni) cb9)).set 34 (.slice (some ⟨g10, 0, none⟩) M cb10), .slice (some ⟨g9, 0, none⟩) (nb + ni) cb9, .slice (some ⟨g10, 0, none⟩) M cb10, hHeld.1.set_ 34 _, HK.out.2.1, ?_, List.getElem?_set_self hl34, ?_, (fun h => by cases h), ?_, hHeld.2.setCell (p := ⟨fb, 34, none⟩) HK.out.2.1 _⟩
        · rw [List.getElem?_set_ne (by decide)]; exact HY.out.2.1
        · rw [hnb2, HK.out.2.2.2.2.2.2.2.2.1, vals_app]
          exact own_setb HQ2.out.1 hHeld.1 (by decide)
        · rw [locs_len, show k + 1 + 1 = M from by rw [← HMl.out, locs_len], locs_succ, vals_app, hnb2]
          exact own_setb HQ2.out.2 hHeld.1 (by decide)
      have HFN := Lib.hid hfin
      clear hfin hHeld
      go_simp
      refine hK.out _ _ ?_
      clear hK K
      try simp only [Act.put, List.getElem_toArray, List.getElem_cons_zero, List.getElem_cons_succ, List.setIfInBounds_toArray, List.set_cons_zero, List.set_cons_succ]
      refine Tail.done (by kernel_rfl) ?_ _
      go_wp2_with fail
      go_roundw
      case rel => exact ⟨k + 1, by go_num, by omega, HFN.out⟩
      case measure => simp [intOf]; omega
    · obtain rfl : N = k := by omega
      have htk : ds.take N = ds := by rw [HR.out.2.1, List.take_length]
      have hll := locs_len ds N
      have hl9 := glyb_len HR.out.2.2 N (by rw [HR.out.2.1]; exact Nat.le_refl _)
      rw [htk] at ho8 hl9
      obtain ⟨g8, cb, rfl, hA8, hnc8, hg8l, _⟩ := open_row ho8 hnn
      obtain ⟨gl, cl, rfl, hA32, _, hgll, _⟩ := open_row ho32 (fun h => by
        rcases ho32.2 with ⟨_, h0⟩ | ⟨_, _, _, h0, _⟩
        · rw [hll] at h0; omega
        · rw [h] at h0; cases h0)
      rw [hll] at hc34
      have hfl := hblk.lt
      have hb4 := bel_made wr Tryd.zeroCells136 BT
      have hB4 := Blk.new_ wr Tryd.zeroCells136 BT
      obtain ⟨W4, hW4⟩ : ∃ X, X = wr.alloc (.cells Tryd.zeroCells136 BT) := ⟨_, rfl⟩
      rw [← hW4] at hb4 hB4
      have hFn : Fnt fb g8 ds.flatten.length cb gl cl N (locsOf ds N) ds.flatten W4 := by
        refine ⟨?_, ?_, fun j u hu => ?_, fun j u hu => ?_⟩
        · exact (hblk.keep hb4).cell hc0
        · exact (hblk.keep hb4).cell hc34
        · exact (hb4.cell (p := ⟨gl, 0 + j, none⟩) hgll).trans (hA32 j u hu)
        · exact (hb4.cell (p := ⟨g8, 0 + j, none⟩) hg8l).trans (hA8 j u hu)
      have hbuf : Buf W4 wr.heap.size wr.heap.size Tryd.zeroCells136.toList [] := ⟨hB4, Nat.le_refl _, .slice none 0 0, by simpa using bz1, World.ownsRow_nil _ _ _ _⟩
      have hNG : N = Gs.length := by rw [HR.out.2.1, HR.out.2.2.1]
      have HLD := Lib.hid (load_any wr.heap.size fb wr.heap.size g8 ds.flatten.length cb gl cl N x (locsOf ds N) ds Tryd.zeroCells136.toList (.slice none 0 0) [] Gs W4 hFn hfl hg8l hgll hb4.size hbuf (by simpa using bz0) (by simp) (by simp) HR.out.2.2 hNG (by rw [HR.out.2.1]; exact locs_ok ds) rfl hnc8 (by omega) (by rw [hNG]; exact hx))
      have HBE := Lib.hid (And.intro hbel hb4)
      clear hblk hfb hc0 hc34 ho8 hnn ho32 hbel htk hll hl9 hA8 hnc8 hg8l hA32 hgll hfl hb4 hB4 hFn hbuf hNG
      go_upto_region 11 with (fail)
      rw [← hW4]
      clear hW4
      go_wp2_with fail
      refine HLD.out.mono ?_
      rintro e W5 ⟨rfl, bd5, ⟨hb5, _, v5, hv5, hs5⟩, hd5⟩
      have k1 := hb5.cell hv5
      have HF := Lib.hid (And.intro hs5 hd5)
      clear hb5 hv5 hs5 hd5
      go_wp2_with fail
      go_ret2
      exact ⟨v5, rfl, own_base' HF.out.1 HBE.out.1.size, HBE.out.1.trans ((HBE.out.2.trans (HF.out.2.mono (Nat.le_refl _))).mono HBE.out.1.size)⟩
end Go.Proofs.YtdeaodgcdacleaaDoor.LdH
namespace Go.Proofs.YtdeaodgcdacleaaDoor.MatO
open Go.ChangeShapes Go.WideShapes Go.ChangeAt Go.RowKit
open Lst Mem RowG SpecB GlyM LdH
set_option linter.unusedSimpArgs false
set_option linter.unusedVariables false
abbrev TB : TypeId := 38
theorem tb_info : (Tryd.prog.info? TB).map (fun i => (i.zero, i.size, i.bytes)) = some (some (.slice none 0 0), 1, 24) := by kernel_rfl
/-- an element: nil, or a row of bytes -/
def El (w : World) (B : Nat) (v : Value) (l : List Int) : Prop := (v = .slice none 0 0 ∧ l = []) ∨ ∃ g c, v = .slice (some ⟨g, 0, none⟩) l.length c ∧ Row w B g T8 (vals .u8 l)
theorem El.rd {w : World} {B : Nat} {v : Value} {l : List Int} (h : El w B v l) : ∃ A n c, v = .slice A n c ∧ Rd w A n c (vals .u8 l) := by
  rcases h with ⟨rfl, rfl⟩ | ⟨g, c, rfl, h⟩
  · exact ⟨none, 0, 0, rfl, Rd.nil_ w⟩
  · have := Rd.of_At (c := c) h.2.1
    rw [vals_len] at this
    exact ⟨_, _, _, rfl, this⟩
theorem El.block {w w' : World} {B : Nat} {v : Value} {l : List Int} (h : El w B v l) (hs : ∀ g, IsT w g T8 → w'.heap[g]? = w.heap[g]?) : El w' B v l := by
  rcases h with h | ⟨g, c, hv, hr⟩
  · exact .inl h
  · exact .inr ⟨g, c, hv, hr.block (hs g hr.1)⟩
theorem El.one {w : World} {B : Nat} {v : Value} {l : List Int} (h : El w B v l) : v.oneCell' = true := by
  rcases h with ⟨rfl, _⟩ | ⟨g, c, rfl, _⟩ <;> rfl
/-- a list of them in a row of the call's own -/
def Lis (w : World) (B : Nat) (v : Value) (ds : List (List Int)) : Prop :=
  ∃ xs : List Value, w.ownsRow B TB 1 v ds.length xs ∧ ∀ i, i < ds.length → ∃ u, xs[i]? = some u ∧ El w B u (ds.getD i [])
theorem Lis.nil_ (w : World) (B : Nat) : Lis w B (.slice none 0 0) [] := ⟨[], World.ownsRow_nil _ _ _ _, fun i h => absurd h (by simp)⟩
theorem Lis.below {w w' : World} {B : Nat} {v : Value} {ds : List (List Int)} (h : Lis w B v ds) (hb : Below w.heap.size w w') : Lis w' B v ds := by
  obtain ⟨xs, ho, hi⟩ := h
  exact ⟨xs, own_keep ho hb, fun i hl => by obtain ⟨u, hu, he⟩ := hi i hl; exact ⟨u, hu, he.block fun g hg => hb.block g hg.lt⟩⟩
theorem Lis.mat {w : World} {B : Nat} {v : Value} {ds : List (List Int)} (h : Lis w B v ds) : Mat w v ds := by
  obtain ⟨xs, ho, hi⟩ := h
  by_cases hn : v = .slice none 0 0
  · have h0 : ds.length = 0 := by
      rcases ho.2 with ⟨_, h⟩ | ⟨_, _, _, h, _⟩
      · exact h
      · rw [hn] at h; cases h
    exact ⟨none, 0, by rw [hn, h0], fun i hl => by omega⟩
  · obtain ⟨g, c, hv, hA, _⟩ := open_row ho hn
    refine ⟨_, c, hv, fun i hl => ?_⟩
    obtain ⟨u, hu, he⟩ := hi i hl
    obtain ⟨A, n, c', rfl, hr⟩ := he.rd
    exact ⟨g, 0, A, n, c', rfl, hA i _ hu, hr⟩
/-- an element more, whose row has just been made -/
theorem app_el {ops : Array Oper} {rest : List Oper} {o : Oper} {a : Act} {Q : Exit → Act → World → Prop} {s x : Operand} {w : World} {B : Nat} {v u : Value} {ds : List (List Int)} {l : List Int} (hgd : o.guard = none) (ho : o.op = .call { callee := .builtin .append, args := #[s, x], argTypes := #[37, 37] })
    (hs : a.eval s = v) (hx : a.eval x = .slice (some ⟨w.heap.size, 0, none⟩) 1 1) (hL : Lis w B v ds) (hE : El w B u l) (hB : B ≤ w.heap.size) (hl : ds.length ≤ 1000)
    (h : ∀ v' Z, Lis Z B v' (ds ++ [l]) → w.grownBy Z v.ownBlock → (∀ b, v.ownBlock = some b → IsT w b TB ∧ B ≤ b) → v'.oneCell' = true → v' ≠ .slice none 0 0 → wpList Tryd.prog ops Q rest (a.put o.dst v') Z) :
    wpList Tryd.prog ops Q (o :: rest) a (w.alloc (.cells #[u] TB)) := by
  obtain ⟨i2, hi2, iz2, iy2, ib2⟩ := info_parts tb_info
  have hb := bel_made w #[u] TB
  have hN := Blk.new_ w #[u] TB
  obtain ⟨W, hW⟩ : ∃ W, W = w.alloc (.cells #[u] TB) := ⟨_, rfl⟩
  rw [← hW] at hb hN
  rw [← hW]
  have hT : ∀ b, v.ownBlock = some b → IsT w b TB ∧ B ≤ b := fun b hb => own_isT hL.choose_spec.1 hb
  obtain ⟨xs, ow, hi⟩ := hL.below hb
  have hE' := hE.block (w' := W) fun g hg => hb.block g hg.lt
  refine wpList_append_own_at W hgd s x _ ho B TB i2 (.slice none 0 0) 1 24 Tryd.underlying37 hi2 iz2 iy2 ib2 rfl (by decide) v ds.length xs hs ow ⟨w.heap.size, 0, none⟩ 1 1 [u] hx rfl (fun j y hy => by rw [Addr.add_lit, Nat.zero_add]; exact hN.cell hy) (fun y hy => by simp at hy; subst hy; exact hE.one) (by unfold maxLen; omega) (by omega) (Nat.le_trans hB hb.size) (fun v' Z own grow nil at' => h v' Z ?_ (PthB.grown_below hb grow) hT ?_ ?_)
  · have keep : ∀ g, IsT W g T8 → Z.heap[g]? = W.heap[g]? := fun g hg => grow.block g hg.lt (fun e => ((own_isT ow e.symm).1.ne hg (by decide)) rfl)
    refine ⟨_, by rw [List.length_append]; exact own, fun i hl => ?_⟩
    rw [List.length_append, List.length_singleton] at hl
    have hxl : xs.length = ds.length := by rw [ow.1, Nat.mul_one]
    by_cases hk : i < ds.length
    · obtain ⟨y, hy, he⟩ := hi i hk
      refine ⟨y, by rw [List.getElem?_append_left (by omega)]; exact hy, ?_⟩
      rw [List.getD_eq_getElem?_getD, List.getElem?_append_left hk, ← List.getD_eq_getElem?_getD]
      exact he.block keep
    · have hik : i = ds.length := by omega
      subst hik
      refine ⟨u, by rw [List.getElem?_append_right (by omega), hxl]; simp, ?_⟩
      rw [show (ds ++ [l]).getD ds.length [] = l from by simp [List.getD_eq_getElem?_getD]]
      exact hE'.block keep
  · rcases own.2 with ⟨rfl, _⟩ | ⟨_, _, _, rfl, _⟩ <;> rfl
  · intro e
    have := (nil.1 e).2
    cases this
end Go.Proofs.YtdeaodgcdacleaaDoor.MatO
namespace Go.Proofs.YtdeaodgcdacleaaDoor.PtiB
open Go.ChangeShapes Go.WideShapes Go.ChangeAt Go.RowKit
open Lst Mem RowG GlyM PthA
open PthB (ptc ptc_len grown_below)
set_option linter.unusedVariables false
set_option linter.unusedSimpArgs false
/-- a path's steps in a row of the call's own -/
def Sgs (w : World) (B : Nat) (v : Value) (l : List Sg) : Prop :=
  ∃ xs : List Value, w.ownsRow B 86 2 v l.length xs ∧ ∀ i, i < l.length → ∃ q c, xs[i * 2]? = some (.int .i64 (l.getD i (0, [])).1) ∧ xs[i * 2 + 1]? = some (.slice (some ⟨q, 0, none⟩) (l.getD i (0, [])).2.length c) ∧ Row w B q 91 ((l.getD i (0, [])).2.flatMap ptc)
variable {w w' : World} {B : Nat} {v v' : Value} {l : List Sg}
theorem Sgs.nil_ (w : World) (B : Nat) : Sgs w B (.slice none 0 0) [] := ⟨[], World.ownsRow_nil _ _ _ _, fun i h => absurd h (by simp)⟩
/-- blocks of steps and of places stay as they are -/
theorem Sgs.same (h : Sgs w B v l) (hs : ∀ g, B ≤ g → (IsT w g 86 ∨ IsT w g 91) → w'.heap[g]? = w.heap[g]?) : Sgs w' B v l := by
  obtain ⟨xs, ho, hi⟩ := h
  refine ⟨xs, own_block ho (fun g hg => ?_), fun i hl => ?_⟩
  · have := own_isT ho hg
    exact hs g this.2 (.inl this.1)
  · obtain ⟨q, c, h1, h2, h3⟩ := hi i hl
    exact ⟨q, c, h1, h2, h3.block (hs q h3.2.2 (.inr h3.1))⟩
theorem Sgs.below (h : Sgs w B v l) (hb : Below w.heap.size w w') : Sgs w' B v l := h.same fun g _ h => hb.block g (by rcases h with h | h <;> exact h.lt)
theorem Sgs.grown {T : TypeId} {r : Option Nat} (h : Sgs w B v l) (hg : w.grownBy w' r) (hr : ∀ b, r = some b → IsT w b T) (h1 : T ≠ 86) (h2 : T ≠ 91) : Sgs w' B v l := h.same fun g _ h =>
  hg.block g (by rcases h with h | h <;> exact h.lt) (fun e => by
    have hb := hr g e.symm
    rcases h with h | h
    · exact (hb.ne h h1) rfl
    · exact (hb.ne h h2) rfl)
theorem Sgs.set_ {b i : Nat} {T : TypeId} {cs : List Value} {u : Value} (h : Sgs w B v l) (hb : Blk b T cs w) (h1 : T ≠ 86) (h2 : T ≠ 91) : Sgs (w.setCell ⟨b, i, none⟩ u) B v l := h.same fun g _ h => by
  refine Below.heap_setCell _ _ _ _ (fun e => ?_)
  rcases h with h | h
  · exact (IsT.ne ⟨_, hb⟩ h h1) e.symm
  · exact (IsT.ne ⟨_, hb⟩ h h2) e.symm
/-- a step more -/
theorem Sgs.push {q c : Nat} {s : Sg} {xs : List Value} (ho : w.ownsRow B 86 2 v l.length xs)
    (hi : ∀ i, i < l.length → ∃ q c, xs[i * 2]? = some (.int .i64 (l.getD i (0, [])).1) ∧ xs[i * 2 + 1]? = some (.slice (some ⟨q, 0, none⟩) (l.getD i (0, [])).2.length c) ∧ Row w B q 91 ((l.getD i (0, [])).2.flatMap ptc))
    (hd : Row w B q 91 (s.2.flatMap ptc)) (hg : w.grownBy w' v.ownBlock) (ho' : w'.ownsRow B 86 2 v' (l.length + 1) (xs ++ [.int .i64 s.1, .slice (some ⟨q, 0, none⟩) s.2.length c])) : Sgs w' B v' (l ++ [s]) := by
  have hxl : xs.length = l.length * 2 := ho.1
  have keep : ∀ g, IsT w g 91 → w'.heap[g]? = w.heap[g]? := fun g h => hg.block g h.lt (fun e => ((own_isT ho e.symm).1.ne h (by decide)) rfl)
  refine ⟨_, by rw [List.length_append]; exact ho', fun i hl => ?_⟩
  rw [List.length_append, List.length_singleton] at hl
  by_cases hk : i < l.length
  · obtain ⟨q', c', h1, h2, h3⟩ := hi i hk
    have hgd : (l ++ [s]).getD i (0, []) = l.getD i (0, []) := by
      rw [List.getD_eq_getElem?_getD, List.getD_eq_getElem?_getD, List.getElem?_append_left hk]
    rw [hgd]
    exact ⟨q', c', by rw [List.getElem?_append_left (by omega)]; exact h1, by rw [List.getElem?_append_left (by omega)]; exact h2, h3.block (keep q' h3.1)⟩
  · have hik : i = l.length := by omega
    subst hik
    have hgd : (l ++ [s]).getD l.length (0, []) = s := by simp [List.getD_eq_getElem?_getD]
    rw [hgd]
    exact ⟨q, c, by rw [List.getElem?_append_right (by omega), hxl]; simp, by rw [List.getElem?_append_right (by omega), hxl]; simp, hd.block (keep q hd.1)⟩
theorem grown_below {W Z : World} {r : Option Nat} (hb : Below w.heap.size w W) (hg : W.grownBy Z r) : w.grownBy Z r := by
  obtain ⟨a, b, c, d, e⟩ := hb
  obtain ⟨a', b', c', d', e'⟩ := hg
  exact ⟨a'.trans a, b'.trans b, c'.trans c, Nat.le_trans d d', fun i hi hne => (e' i (Nat.lt_of_lt_of_le hi d) hne).trans (e i hi)⟩
theorem seg_info : (Tryd.prog.info? 86).map (fun i => (i.zero, i.size, i.bytes)) = some (some (.agg #[.int .i64 0, .slice none 0 0]), 2, 32) := by kernel_rfl
theorem sgs_mono {B' : Nat} (h : Sgs w B v l) (hB : B' ≤ B) : Sgs w B' v l := by
  obtain ⟨xs, ho, hi⟩ := h
  exact ⟨xs, own_base' ho hB, fun i hl => by obtain ⟨q, c, h1, h2, h3, h4, h5⟩ := hi i hl; exact ⟨q, c, h1, h2, h3, h4, by omega⟩⟩
theorem pt_info : (Tryd.prog.info? 91).map (fun i => (i.zero, i.size, i.bytes)) = some (some (.agg #[.int .i64 0, .int .i64 0]), 2, 16) := by kernel_rfl
/-- append of a step whose block has just been made, its places in a row -/
theorem app_segR {ops : Array Oper} {rest : List Oper} {o : Oper} {a : Act} {Q : Exit → Act → World → Prop} {s x : Operand} {op : Int} {ps : List Pt} {q c n : Nat} (hn : n = ps.length) (hgd : o.guard = none) (ho : o.op = .call { callee := .builtin .append, args := #[s, x], argTypes := #[40, 40] })
    (hs : a.eval s = v) (hx : a.eval x = .slice (some ⟨w.heap.size, 0, none⟩) 1 1) (hS : Sgs w B v l) (hR : Row w B q 91 (ps.flatMap ptc)) (hB : B ≤ w.heap.size) (hl : l.length ≤ 1000)
    (h : ∀ v' Z, Sgs Z B v' (l ++ [(op, ps)]) → w.grownBy Z v.ownBlock → (∀ b, v.ownBlock = some b → IsT w b 86 ∧ B ≤ b) → (∀ g, v'.ownBlock = some g → v.ownBlock = some g ∨ w.heap.size ≤ g) → wpList Tryd.prog ops Q rest (a.put o.dst v') Z) :
    wpList Tryd.prog ops Q (o :: rest) a (w.alloc (.cells #[.int .i64 op, .slice (some ⟨q, 0, none⟩) n c] 86)) := by
  subst hn
  obtain ⟨i2, hi2, iz2, iy2, ib2⟩ := info_parts seg_info
  have hb := bel_made w #[.int .i64 op, .slice (some ⟨q, 0, none⟩) ps.length c] 86
  have hN := Blk.new_ w #[.int .i64 op, .slice (some ⟨q, 0, none⟩) ps.length c] 86
  obtain ⟨W, hW⟩ : ∃ W, W = w.alloc (.cells #[.int .i64 op, .slice (some ⟨q, 0, none⟩) ps.length c] 86) := ⟨_, rfl⟩
  rw [← hW] at hb hN
  rw [← hW]
  have hT : ∀ b, v.ownBlock = some b → IsT w b 86 ∧ B ≤ b := fun b hb => own_isT hS.choose_spec.1 hb
  obtain ⟨xs, ow, hi⟩ := hS.below hb
  have hR' := hR.block (hb.block q hR.1.lt)
  refine wpList_append_own_at W hgd s x _ ho B 86 i2 (.agg #[.int .i64 0, .slice none 0 0]) 2 32 Tryd.underlying40 hi2 iz2 iy2 ib2 rfl (by decide) v l.length xs hs ow ⟨w.heap.size, 0, none⟩ 1 1 [.int .i64 op, .slice (some ⟨q, 0, none⟩) ps.length c] hx rfl (two_cells hN) (two_any _ _ _ _) (by unfold maxLen; omega) (by omega) (Nat.le_trans hB hb.size) (fun v' Z own grow nil at' => h v' Z ?_ (grown_below hb grow) hT (fun g hg => ?_))
  · exact Sgs.push (s := (op, ps)) ow hi hR' grow own
  · rcases at' with e | e
    · rw [e] at hg; exact .inl hg
    · rw [e] at hg; have := Option.some.inj hg; exact .inr (by have := hb.size; omega)
/-- where a path's steps can be read -/
theorem sgs_at (h : Sgs w B v l) : ∃ A c, v = .slice A l.length c ∧ ∀ i, i < l.length → ∃ g q c', A = some ⟨g, 0, none⟩ ∧ w.cell? ⟨g, i * 2, none⟩ = some (.int .i64 (l.getD i (0, [])).1) ∧ w.cell? ⟨g, i * 2 + 1, none⟩ = some (.slice (some ⟨q, 0, none⟩) (l.getD i (0, [])).2.length c') ∧ Row w B q 91 ((l.getD i (0, [])).2.flatMap ptc) := by
  obtain ⟨xs, ho, hi⟩ := h
  by_cases hn : v = .slice none 0 0
  · have h0 : l.length = 0 := by
      rcases ho.2 with ⟨_, h⟩ | ⟨_, _, _, h, _⟩
      · exact h
      · rw [hn] at h; cases h
    exact ⟨none, 0, by rw [hn, h0], fun i h => by omega⟩
  · obtain ⟨g, c, hv, hA, _, _, _⟩ := open_row ho hn
    refine ⟨_, c, hv, fun i hl => ?_⟩
    obtain ⟨q, c', h1, h2, h3⟩ := hi i hl
    have a1 := hA _ _ h1
    have a2 := hA _ _ h2
    rw [Nat.zero_add] at a1 a2
    exact ⟨g, q, c', rfl, a1, a2, h3⟩
end Go.Proofs.YtdeaodgcdacleaaDoor.PtiB
namespace Go.Proofs.YtdeaodgcdacleaaDoor.LdI
open Go.ChangeShapes Go.WideShapes Go.ChangeAt Go.RowKit
open Lst Mem RowG SpecB GlyM PthA LdB LdC Trn
open PthB (ptc ptc_len grown_below)
set_option linter.unusedSimpArgs false
set_option linter.unusedVariables false
theorem pointOf_bel (a b : Int) (w : World) (ha : -2147483648 ≤ a ∧ a ≤ 2147483647) (hb : -2147483648 ≤ b ∧ b ≤ 2147483647) :
    Calls Tryd.prog 25 #[.agg #[.int .i32 a, .int .i32 b]] w fun e w' => e = .returned (.agg #[.int .i64 a, .int .i64 b]) ∧ Below w.heap.size w w' := by
  go_enter Tryd.func25, Tryd.ntmps25
  go_wp2
  exact bodyPost_ret (v := .agg #[.int .i64 a, .int .i64 b]) (by simp [results, Tryd.results25, go_sem]) rfl ⟨rfl, by repeat (first | exact Below.refl _ _ | exact bel_made _ _ _ | refine Below.alloc ?_ (by simp <;> omega) _)⟩
/-- a step of the package is this step -/
def Rep (r : Rec) (s : Sg) : Prop := s.1 = r.1 ∧ (Sm r.2.1 ∧ Sm r.2.2.1) ∧ (((r.1 = 0 ∨ r.1 = 1) ∧ s.2 = [r.2.1]) ∨ (r.1 = 2 ∧ s.2 = [r.2.1, r.2.2.1]))
def Reps (l : List Rec) (S : List Sg) : Prop := l.length = S.length ∧ ∀ i, i < S.length → Rep (l.getD i (0, (0, 0), (0, 0), (0, 0))) (S.getD i (0, []))
theorem segs_at {w : World} {B : Nat} {v : Value} {l : List Rec} (h : Segs w B v l) : ∃ A c, v = .slice A l.length c ∧ ∀ i, i < l.length → ∃ g, A = some ⟨g, 0, none⟩ ∧ g < w.heap.size ∧ ∀ j u, j < 7 → (rc (l.getD i (0, (0, 0), (0, 0), (0, 0))))[j]? = some u → w.cell? ⟨g, i * 7 + j, none⟩ = some u := by
  rcases h.2 with ⟨e, h0⟩ | ⟨g, cap, cur, hv, hB, hh, hc, _⟩
  · exact ⟨none, 0, by rw [e, h0], fun i hi => by omega⟩
  · refine ⟨_, cap, hv, fun i hi => ⟨g, rfl, (Array.getElem?_eq_some_iff.1 hh).1, fun j u hj hu => ?_⟩⟩
    obtain ⟨g', c', hv', hA, _⟩ := open_row h (fun e => by rw [hv] at e; cases e)
    rw [hv] at hv'
    injection hv' with h1 _ _
    injection h1 with h1
    injection h1 with h1
    subst h1
    have := at_flat rc_len (0, (0, 0), (0, 0), (0, 0)) hA (i := i) (r := j) hi hj hu
    rwa [Nat.mul_comm] at this
set_option maxHeartbeats 60000000 in
set_option maxRecDepth 20000 in
theorem segsOf_any (B0 : Nat) (v : Value) (l : List Rec) (S : List Sg) (w : World) (hS : Segs w B0 v l) (hr : Reps l S) (hl : S.length ≤ 900) :
    Calls Tryd.prog 20 #[v] w fun e w' => ∃ v', e = .returned v' ∧ PtiB.Sgs w' w.heap.size v' S ∧ Below w.heap.size w w' := by
  obtain ⟨A, c, rfl, hat⟩ := segs_at hS
  obtain ⟨n, hn⟩ : ∃ n, l.length = n := ⟨_, rfl⟩
  rw [hn] at hat
  rw [hn]
  have hnS : n = S.length := by rw [← hn]; exact hr.1
  have HR := Lib.hid (And.intro hat (And.intro hr.2 hnS))
  have hn9 : n ≤ 900 := by omega
  clear hS hr hat hn hnS hl
  go_enter Tryd.func20, Tryd.ntmps20
  go_wp2_with fail
  go_loopw [3, 10] (fun v i wr => ∃ k : Nat, k ≤ n ∧ i = .int .i64 k ∧ Below w.heap.size w wr ∧ PtiB.Sgs wr w.heap.size v (S.take k)) (fun _ i _ => n - (intOf i).toNat)
  case atStart => exact ⟨0, Nat.zero_le _, rfl, Below.refl _ _, by rw [List.take_zero]; exact PtiB.Sgs.nil_ w _⟩
  case round =>
    obtain ⟨k, hk, rfl, hb, hS⟩ := hrel
    obtain ⟨wo, hwo⟩ : ∃ W, W = wr := ⟨_, rfl⟩
    subst hwo
    by_cases hlt : k < n
    · obtain ⟨g, rfl, hgl, hcell⟩ := HR.out.1 k hlt
      have hkS : k < S.length := by rw [← HR.out.2.2]; exact hlt
      obtain ⟨h1, ⟨hs1, hs2⟩, hcase⟩ := HR.out.2.1 k hkS
      have htk : S.take (k + 1) = S.take k ++ [S.getD k (0, [])] := by
        rw [List.take_succ_eq_append_getElem hkS, List.getD_eq_getElem?_getD, List.getElem?_eq_getElem hkS]
        rfl
      obtain ⟨r, hr⟩ : ∃ r, r = l.getD k (0, (0, 0), (0, 0), (0, 0)) := ⟨_, rfl⟩
      obtain ⟨s, hs⟩ : ∃ s, s = S.getD k (0, []) := ⟨_, rfl⟩
      rw [← hr] at h1 hs1 hs2 hcase hcell
      rw [← hs] at h1 hcase htk
      obtain ⟨op, a, b, d⟩ := r
      simp only at h1 hs1 hs2 hcase
      have f : ∀ j u, j < 7 → (rc (op, a, b, d))[j]? = some u → wo.cell? ⟨g, k * 7 + j, none⟩ = some u := fun j u hj hu => (hb.cell (p := ⟨g, k * 7 + j, none⟩) hgl).trans (hcell j u hj hu)
      have f0 : wo.cell? ⟨g, k * 7, none⟩ = some (.int .u32 op) := f 0 _ (by omega) rfl
      have f1 := f 1 _ (by omega) rfl
      have f2 := f 2 _ (by omega) rfl
      have f3 := f 3 _ (by omega) rfl
      have f4 := f 4 _ (by omega) rfl
      have f5 := f 5 _ (by omega) rfl
      have f6 := f 6 _ (by omega) rfl
      obtain ⟨na, hna⟩ : ∃ m, s.2.length = m := ⟨_, rfl⟩
      have hop : (0 ≤ op ∧ op ≤ 2) ∧ (min (max 1 op) 3 = (na : Int)) ∧ na ≤ 2 := by
        rcases hcase with ⟨h | h, e⟩ | ⟨h, e⟩
        · rw [← hna, e, h]; exact ⟨by omega, rfl, by simp⟩
        · rw [← hna, e, h]; exact ⟨by omega, rfl, by simp⟩
        · rw [← hna, e, h]; exact ⟨by omega, rfl, by simp⟩
      have hpl : ∀ m, m < na → (m = 0 ∧ s.2.getD m (0, 0) = a) ∨ (m = 1 ∧ s.2.getD m (0, 0) = b) := fun m hm => by
        rcases hcase with ⟨h | h, e⟩ | ⟨h, e⟩
        · rw [← hna, e] at hm; simp at hm; subst hm; exact .inl ⟨rfl, by rw [e]; rfl⟩
        · rw [← hna, e] at hm; simp at hm; subst hm; exact .inl ⟨rfl, by rw [e]; rfl⟩
        · rw [← hna, e] at hm; simp at hm
          have : m = 0 ∨ m = 1 := by omega
          rcases this with rfl | rfl
          · exact .inl ⟨rfl, by rw [e]; rfl⟩
          · exact .inr ⟨rfl, by rw [e]; rfl⟩
      obtain ⟨⟨o1, o2⟩, o3, o4⟩ := hop
      have wop : IntKind.i64.wrap op = op := IntWalk.i64_in _ (by omega)
      have HX := Lib.hid (And.intro hS (And.intro hb (And.intro htk (And.intro hpl (And.intro hna (And.intro h1 (And.intro hs1 hs2)))))))
      clear hS hb htk hpl hna h1 hs1 hs2 hcase hcell f hr hs hgl hkS
      go_upto_region 5 with (fail)
      have hb1 := bel_made wo #[.int .u32 op, .int .i32 a.1, .int .i32 a.2, .int .i32 b.1, .int .i32 b.2, .int .i32 d.1, .int .i32 d.2] ST
      have hB1 := Blk.new_ wo #[.int .u32 op, .int .i32 a.1, .int .i32 a.2, .int .i32 b.1, .int .i32 b.2, .int .i32 d.1, .int .i32 d.2] ST
      obtain ⟨V, hV⟩ : ∃ X, X = wo.alloc (.cells #[.int .u32 op, .int .i32 a.1, .int .i32 a.2, .int .i32 b.1, .int .i32 b.2, .int .i32 d.1, .int .i32 d.2] 145) := ⟨_, rfl⟩
      rw [← hV] at hb1 hB1
      rw [← hV]
      obtain ⟨sb, hsb⟩ : ∃ b, b = wo.heap.size := ⟨_, rfl⟩
      rw [← hsb] at hB1
      rw [← hsb]
      have e0 := hB1.cell (i := 0) rfl
      have H1 := Lib.hid (And.intro hB1 (And.intro hb1 hsb))
      clear hV hB1 hb1 f0 f1 f2 f3 f4 f5 f6 hsb
      go_upto_region 6 with (fail)
      have hb2 := bel_made V #[.int .i64 op, .slice none 0 0] 86
      have hB2 := Blk.new_ V #[.int .i64 op, .slice none 0 0] 86
      obtain ⟨U, hU⟩ : ∃ X, X = V.alloc (.cells #[.int .i64 op, .slice none 0 0] 86) := ⟨_, rfl⟩
      rw [← hU] at hb2 hB2
      rw [← hU]
      obtain ⟨xb, hxb⟩ : ∃ b, b = V.heap.size := ⟨_, rfl⟩
      rw [← hxb] at hB2
      rw [← hxb]
      have hB1U := H1.out.1.keep hb2
      have hdU : Below wo.heap.size wo U := H1.out.2.1.trans (hb2.mono H1.out.2.1.size)
      have e0 := hB1U.cell (i := 0) rfl
      have hxw : wo.heap.size ≤ xb ∧ wo.heap.size ≤ sb := by rw [hxb, H1.out.2.2]; exact ⟨H1.out.2.1.size, Nat.le_refl _⟩
      have H2 := Lib.hid (And.intro hB1U (And.intro hB2 (And.intro hdU hxw)))
      clear hU hB2 hb2 hB1U hdU hxb hxw
      have hw2 : (op ≤ 1 ∧ na = 1) ∨ (op = 2 ∧ na = 2) := by omega
      rcases hw2 with ⟨q1, rfl⟩ | ⟨rfl, rfl⟩
      · clear o1 o2 o3
        go_wp2_with fail
        go_loopw [23] (fun i wq => ∃ (m : Nat) (va : Value), i = .int .i64 m ∧ m ≤ 1 ∧ Below wo.heap.size wo wq ∧ Blk sb ST [.int .u32 op, .int .i32 a.1, .int .i32 a.2, .int .i32 b.1, .int .i32 b.2, .int .i32 d.1, .int .i32 d.2] wq ∧ Blk xb 86 [.int .i64 op, va] wq ∧ wq.ownsRow wo.heap.size 91 2 va m ((s.2.take m).flatMap ptc) ∧ va.oneCell' = true) (fun i _ => 1 - (intOf i).toNat)
        case atStart => exact ⟨0, _, rfl, Nat.zero_le _, H2.out.2.2.1, H2.out.1, H2.out.2.1, World.ownsRow_nil _ _ _ _, rfl⟩
        case round =>
          obtain ⟨m, va, rfl, hm, hbq, hBs, hBx, own, h1va⟩ := hrel
          obtain ⟨wq, hwq⟩ : ∃ W, W = wr := ⟨_, rfl⟩
          subst hwq
          by_cases hltm : m < 1
          · obtain ⟨p, hp⟩ : ∃ p, p = s.2.getD m (0, 0) := ⟨_, rfl⟩
            have hpm := HX.out.2.2.2.1 m hltm
            rw [← hp] at hpm
            have hml : m < s.2.length := by rw [HX.out.2.2.2.2.1]; exact hltm
            have htm : s.2.take (m + 1) = s.2.take m ++ [p] := by
              rw [List.take_succ_eq_append_getElem hml, hp, List.getD_eq_getElem?_getD, List.getElem?_eq_getElem hml]
              rfl
            have hsp : Sm p := by
              rcases hpm with ⟨_, h⟩ | ⟨_, h⟩
              · rw [h]; exact HX.out.2.2.2.2.2.2.1
              · rw [h]; exact HX.out.2.2.2.2.2.2.2
            have HCP : Hid (∀ W, Blk sb ST [.int .u32 op, .int .i32 a.1, .int .i32 a.2, .int .i32 b.1, .int .i32 b.2, .int .i32 d.1, .int .i32 d.2] W → W.cell? ⟨sb, 1 + m * 2, none⟩ = some (.int .i32 p.1) ∧ W.cell? ⟨sb, 1 + m * 2 + 1, none⟩ = some (.int .i32 p.2)) := Lib.hid (fun W hb => by
              rcases hpm with ⟨h, h2⟩ | ⟨h, h2⟩
              · subst h; rw [h2]; exact ⟨hb.cell (i := 1) rfl, hb.cell (i := 2) rfl⟩
              · subst h; rw [h2]; exact ⟨hb.cell (i := 3) rfl, hb.cell (i := 4) rfl⟩)
            have hm3 : (m : Int) < 3 := by omega
            have b1 := hsp.1
            have b2 := hsp.2
            have HM := Lib.hid (And.intro hbq (And.intro hBs (And.intro hBx (And.intro own htm))))
            clear hbq hBs hBx own htm hpm hp hml hsp
            go_wp2_with fail
            refine Tail.start (S := (fun w' => Blk sb ST [.int .u32 op, .int .i32 a.1, .int .i32 a.2, .int .i32 b.1, .int .i32 b.2, .int .i32 d.1, .int .i32 d.2] w' ∧ Blk xb 86 [.int .i64 op, va] w' ∧ Below wo.heap.size wo w')) (tl := [10]) (by kernel_rfl) ⟨HM.out.2.1, HM.out.2.2.1, Below.drew HM.out.1⟩ (fun hHeld => ?_)
            refine Tail.take (i := 0) (v := ?vq1) rfl (by kernel_rfl) (by kernel_rfl) (by kernel_rfl) (by kernel_rfl) (by kernel_rfl) (fun _ _ _ h => h) (Or.inl ⟨by rfl, ?hyq1⟩) (by assumption) ?restq1
            case hyq1 => (intro w1 hS; go_simp <;> with_reducible rfl)
            try simp only [Act.put, List.getElem_toArray, List.getElem_cons_zero, List.getElem_cons_succ, List.setIfInBounds_toArray, List.set_cons_zero, List.set_cons_succ]
            refine Tail.take (i := 1) (v := ?vq2) rfl (by kernel_rfl) (by kernel_rfl) (by kernel_rfl) (by kernel_rfl) (by kernel_rfl) (fun _ _ _ h => h) (Or.inl ⟨by rfl, ?hyq2⟩) (by assumption) ?restq2
            case hyq2 => (intro w1 hS; have k := hS.2.1.cell (i := 1) rfl; go_simp <;> with_reducible rfl)
            try simp only [Act.put, List.getElem_toArray, List.getElem_cons_zero, List.getElem_cons_succ, List.setIfInBounds_toArray, List.set_cons_zero, List.set_cons_succ]
            refine Tail.take (i := 2) (v := ?vq3) rfl (by kernel_rfl) (by kernel_rfl) (by kernel_rfl) (by kernel_rfl) (by kernel_rfl) (fun _ _ _ h => h) (Or.inl ⟨by rfl, ?hyq3⟩) (by assumption) ?restq3
            case hyq3 => (intro w1 hS; go_simp <;> with_reducible rfl)
            try simp only [Act.put, List.getElem_toArray, List.getElem_cons_zero, List.getElem_cons_succ, List.setIfInBounds_toArray, List.set_cons_zero, List.set_cons_succ]
            refine Tail.take (i := 3) (v := ?vq4) rfl (by kernel_rfl) (by kernel_rfl) (by kernel_rfl) (by kernel_rfl) (by kernel_rfl) (fun _ _ _ h => h) (Or.inl ⟨by rfl, ?hyq4⟩) (by assumption) ?restq4
            case hyq4 => (intro w1 hS; go_simp <;> with_reducible rfl)
            try simp only [Act.put, List.getElem_toArray, List.getElem_cons_zero, List.getElem_cons_succ, List.setIfInBounds_toArray, List.set_cons_zero, List.set_cons_succ]
            refine Tail.take (i := 4) (v := ?vq5) rfl (by kernel_rfl) (by kernel_rfl) (by kernel_rfl) (by kernel_rfl) (by kernel_rfl) (fun _ _ _ h => h) (Or.inl ⟨by rfl, ?hyq5⟩) (by assumption) ?restq5
            case hyq5 => (intro w1 hS; go_simp <;> with_reducible rfl)
            try simp only [Act.put, List.getElem_toArray, List.getElem_cons_zero, List.getElem_cons_succ, List.setIfInBounds_toArray, List.set_cons_zero, List.set_cons_succ]
            refine Tail.take (i := 5) (v := ?vq6) rfl (by kernel_rfl) (by kernel_rfl) (by kernel_rfl) (by kernel_rfl) (by kernel_rfl) (fun _ _ _ h => h) (Or.inl ⟨by rfl, ?hyq6⟩) (by assumption) ?restq6
            case hyq6 => (intro w1 hS; have k := (HCP.out _ hS.1).1; have k2 := (HCP.out _ hS.1).2; go_simp <;> with_reducible rfl)
            try simp only [Act.put, List.getElem_toArray, List.getElem_cons_zero, List.getElem_cons_succ, List.setIfInBounds_toArray, List.set_cons_zero, List.set_cons_succ]
            refine Tail.ready (rs := [6]) (by kernel_rfl) (by simp) (Tail.AllReadyL.cons rfl (fun K hK => ?_) Tail.AllReadyL.nil)
            go_simp
            refine (pointOf_bel p.1 p.2 _ (by omega) (by omega)).mono ?_
            rintro e w1 ⟨rfl, hb⟩
            refine hK.out _ _ ⟨hHeld.1.keep hb, hHeld.2.1.keep hb, hHeld.2.2.trans (hb.mono hHeld.2.2.size)⟩ (fun hHeld => ?_)
            clear hK K
            try simp only [Act.put, List.getElem_toArray, List.getElem_cons_zero, List.getElem_cons_succ, List.setIfInBounds_toArray, List.set_cons_zero, List.set_cons_succ]
            have own1 := own_keep (own_keep HM.out.2.2.2.1 (Below.drew (Below.refl _ _))) hb
            clear hb
            refine Tail.ready (rs := [7]) (by kernel_rfl) (by simp) (Tail.AllReadyL.cons rfl (fun K hK => ?_) Tail.AllReadyL.nil)
            go_simp
            refine hK.out _ _ ⟨hHeld.1.keep (bel_made _ _ _), hHeld.2.1.keep (bel_made _ _ _), hHeld.2.2.trans ((bel_made _ _ _).mono hHeld.2.2.size)⟩ (fun hHeld => ?_)
            clear hK K
            try simp only [Act.put, List.getElem_toArray, List.getElem_cons_zero, List.getElem_cons_succ, List.setIfInBounds_toArray, List.set_cons_zero, List.set_cons_succ]
            obtain ⟨Q, hQ⟩ : ∃ X, X = w1.alloc (.cells #[.int .i64 p.1, .int .i64 p.2] 91) := ⟨_, rfl⟩
            have ownQ : Q.ownsRow wo.heap.size 91 2 va m ((s.2.take m).flatMap ptc) := by rw [hQ]; exact own_keep own1 (bel_made w1 _ _)
            have hnQ : Blk w1.heap.size 91 [.int .i64 p.1, .int .i64 p.2] Q := by rw [hQ]; exact Blk.new_ w1 #[.int .i64 p.1, .int .i64 p.2] 91
            rw [← hQ] at hHeld
            rw [← hQ]
            clear hQ own1
            have hbsQ := hHeld.2.2.size
            have HQ := Lib.hid (And.intro ownQ hnQ)
            clear ownQ hnQ
            obtain ⟨i2, hi2, iz2, iy2, ib2⟩ := info_parts PtiB.pt_info
            refine Tail.ready (rs := [8]) (by kernel_rfl) (by simp) (Tail.AllReadyL.cons rfl (fun K hK => ?_) Tail.AllReadyL.nil)
            refine step_app2 rfl (.tmp 27) (.tmp 33) 84 rfl wo.heap.size 91 i2 (.agg #[.int .i64 0, .int .i64 0]) 2 16 Tryd.underlying84 hi2 iz2 iy2 ib2 rfl (by decide) va m _ rfl HQ.out.1 ⟨w1.heap.size, 0, none⟩ 1 1 [.int .i64 p.1, .int .i64 p.2] rfl rfl (two_cells HQ.out.2) (two_ints _ _) (by unfold maxLen; omega) (by omega) hbsQ ?_
            intro v8 Q2 own8 grow8 nil8 _
            obtain ⟨g8, cb8, hv8, _⟩ := open_row own8 (fun h => by (have := (nil8.1 h).2; cases this))
            subst hv8
            refine hK.out _ _ ⟨blk_grown hHeld.1 grow8 (fun e => ((own_isT HQ.out.1 e).1.ne ⟨_, hHeld.1⟩ (by decide)) rfl), blk_grown hHeld.2.1 grow8 (fun e => ((own_isT HQ.out.1 e).1.ne ⟨_, hHeld.2.1⟩ (by decide)) rfl), hHeld.2.2.grown grow8 hbsQ (fun g hg => (own_isT HQ.out.1 hg).2)⟩ (fun hHeld => ?_)
            clear hK K
            try simp only [Act.put, List.getElem_toArray, List.getElem_cons_zero, List.getElem_cons_succ, List.setIfInBounds_toArray, List.set_cons_zero, List.set_cons_succ]
            have H8 := Lib.hid own8
            clear own8 grow8 nil8
            refine Tail.ready (rs := [9]) (by kernel_rfl) (by simp) (Tail.AllReadyL.cons rfl (fun K hK => ?_) Tail.AllReadyL.nil)
            go_simp
            refine hK.out _ _ hHeld (fun hHeld => ?_)
            clear hK K
            try simp only [Act.put, List.getElem_toArray, List.getElem_cons_zero, List.getElem_cons_succ, List.setIfInBounds_toArray, List.set_cons_zero, List.set_cons_succ]
            refine Tail.ready (rs := [10]) (by kernel_rfl) (by simp) (Tail.AllReadyL.last rfl (by rfl) (fun K hK => ?_) Tail.AllReadyL.nil)
            have k1 := hHeld.2.1.cell (i := 1) rfl
            have kf := hHeld.2.1.frozen
            have hfb := hHeld.2.1.set_ 1 (.slice (some ⟨g8, 0, none⟩) (m + 1) cb8)
            have hfs : Blk sb ST [.int .u32 op, .int .i32 a.1, .int .i32 a.2, .int .i32 b.1, .int .i32 b.2, .int .i32 d.1, .int .i32 d.2] (Q2.setCell ⟨xb, 1, none⟩ (.slice (some ⟨g8, 0, none⟩) (m + 1) cb8)) := hHeld.1.other (IsT.ne ⟨_, hHeld.1⟩ ⟨_, hHeld.2.1⟩ (by decide))
            have hfd := hHeld.2.2.setCell (p := ⟨xb, 1, none⟩) H2.out.2.2.2.1 (.slice (some ⟨g8, 0, none⟩) (m + 1) cb8)
            have hfo : (Q2.setCell ⟨xb, 1, none⟩ (.slice (some ⟨g8, 0, none⟩) (m + 1) cb8)).ownsRow wo.heap.size 91 2 (.slice (some ⟨g8, 0, none⟩) (m + 1) cb8) (m + 1) ((s.2.take (m + 1)).flatMap ptc) := by
              rw [HM.out.2.2.2.2, List.flatMap_append]
              exact own_block H8.out (fun g hg => Below.heap_setCell _ _ _ _ (fun e => ((own_isT H8.out hg).1.ne ⟨_, hHeld.2.1⟩ (by decide)) e))
            have HF := Lib.hid (And.intro hfb (And.intro hfs (And.intro hfd hfo)))
            clear hfb hfs hfd hfo hHeld
            go_simp
            refine hK.out _ _ ?_
            clear hK K
            try simp only [Act.put, List.getElem_toArray, List.getElem_cons_zero, List.getElem_cons_succ, List.setIfInBounds_toArray, List.set_cons_zero, List.set_cons_succ]
            refine Tail.done (by kernel_rfl) ?_ _
            go_wp2_with fail
            go_roundw
            case rel => exact ⟨m + 1, .slice (some ⟨g8, 0, none⟩) (m + 1) cb8, by go_num, by omega, HF.out.2.2.1, HF.out.2.1, HF.out.1, HF.out.2.2.2, rfl⟩
            case measure => simp [intOf]; omega
          · have hme : m = 1 := by omega
            have hps : s.2.take m = s.2 := by rw [hme, ← HX.out.2.2.2.2.1, List.take_length]
            rw [hps] at own
            obtain ⟨qv, cv, rfl, hAv, _, _, hBv⟩ := open_row own (fun h => by
              rcases own.2 with ⟨_, h2⟩ | ⟨_, _, _, h2, _⟩
              · omega
              · rw [h] at h2; cases h2)
            have hRv : Row wq w.heap.size qv 91 (s.2.flatMap ptc) := ⟨(own_isT own rfl).1, hAv, Nat.le_trans HX.out.2.1.size hBv⟩
            have hSw := HX.out.1.below hbq
            have hdw := HX.out.2.1.trans (hbq.mono HX.out.2.1.size)
            have x0 := hBx.cell (i := 0) rfl
            have x1 := hBx.cell (i := 1) rfl
            have hBw := hdw.size
            have hpm : m = s.2.length := by rw [hme, HX.out.2.2.2.2.1]
            have hll : (S.take k).length ≤ 1000 := by rw [List.length_take]; omega
            have HW := Lib.hid (And.intro hSw (And.intro hRv (And.intro hdw hpm)))
            clear hSw hRv hdw hbq hBs hBx own hAv hps hpm hme
            go_wp2_with ((with_reducible refine Gate.append ?_); refine PtiB.app_segR (ps := s.2) HW.out.2.2.2 rfl rfl rfl rfl HW.out.1 HW.out.2.1 hBw hll ?_; intro v' Z hZ hgr hT hat')
            go_roundw
            case rel => exact ⟨k + 1, by omega, by go_num, HW.out.2.2.1.grown hgr hBw (fun b hb => (hT b hb).2), by
              rw [HX.out.2.2.1]
              have e : s = (op, s.2) := by rw [← HX.out.2.2.2.2.2.1]
              rw [e]; exact hZ⟩
            case measure => simp [intOf]; omega
      · clear o1 o2 o3 wop
        go_wp2_with fail
        go_loopw [23] (fun i wq => ∃ (m : Nat) (va : Value), i = .int .i64 m ∧ m ≤ 2 ∧ Below wo.heap.size wo wq ∧ Blk sb ST [.int .u32 2, .int .i32 a.1, .int .i32 a.2, .int .i32 b.1, .int .i32 b.2, .int .i32 d.1, .int .i32 d.2] wq ∧ Blk xb 86 [.int .i64 2, va] wq ∧ wq.ownsRow wo.heap.size 91 2 va m ((s.2.take m).flatMap ptc) ∧ va.oneCell' = true) (fun i _ => 2 - (intOf i).toNat)
        case atStart => exact ⟨0, _, rfl, Nat.zero_le _, H2.out.2.2.1, H2.out.1, H2.out.2.1, World.ownsRow_nil _ _ _ _, rfl⟩
        case round =>
          obtain ⟨m, va, rfl, hm, hbq, hBs, hBx, own, h1va⟩ := hrel
          obtain ⟨wq, hwq⟩ : ∃ W, W = wr := ⟨_, rfl⟩
          subst hwq
          by_cases hltm : m < 2
          · obtain ⟨p, hp⟩ : ∃ p, p = s.2.getD m (0, 0) := ⟨_, rfl⟩
            have hpm := HX.out.2.2.2.1 m hltm
            rw [← hp] at hpm
            have hml : m < s.2.length := by rw [HX.out.2.2.2.2.1]; exact hltm
            have htm : s.2.take (m + 1) = s.2.take m ++ [p] := by
              rw [List.take_succ_eq_append_getElem hml, hp, List.getD_eq_getElem?_getD, List.getElem?_eq_getElem hml]
              rfl
            have hsp : Sm p := by
              rcases hpm with ⟨_, h⟩ | ⟨_, h⟩
              · rw [h]; exact HX.out.2.2.2.2.2.2.1
              · rw [h]; exact HX.out.2.2.2.2.2.2.2
            have HCP : Hid (∀ W, Blk sb ST [.int .u32 2, .int .i32 a.1, .int .i32 a.2, .int .i32 b.1, .int .i32 b.2, .int .i32 d.1, .int .i32 d.2] W → W.cell? ⟨sb, 1 + m * 2, none⟩ = some (.int .i32 p.1) ∧ W.cell? ⟨sb, 1 + m * 2 + 1, none⟩ = some (.int .i32 p.2)) := Lib.hid (fun W hb => by
              rcases hpm with ⟨h, h2⟩ | ⟨h, h2⟩
              · subst h; rw [h2]; exact ⟨hb.cell (i := 1) rfl, hb.cell (i := 2) rfl⟩
              · subst h; rw [h2]; exact ⟨hb.cell (i := 3) rfl, hb.cell (i := 4) rfl⟩)
            have hm3 : (m : Int) < 3 := by omega
            have b1 := hsp.1
            have b2 := hsp.2
            have HM := Lib.hid (And.intro hbq (And.intro hBs (And.intro hBx (And.intro own htm))))
            clear hbq hBs hBx own htm hpm hp hml hsp
            go_wp2_with fail
            refine Tail.start (S := (fun w' => Blk sb ST [.int .u32 2, .int .i32 a.1, .int .i32 a.2, .int .i32 b.1, .int .i32 b.2, .int .i32 d.1, .int .i32 d.2] w' ∧ Blk xb 86 [.int .i64 2, va] w' ∧ Below wo.heap.size wo w')) (tl := [10]) (by kernel_rfl) ⟨HM.out.2.1, HM.out.2.2.1, Below.drew HM.out.1⟩ (fun hHeld => ?_)
            refine Tail.take (i := 0) (v := ?vq7) rfl (by kernel_rfl) (by kernel_rfl) (by kernel_rfl) (by kernel_rfl) (by kernel_rfl) (fun _ _ _ h => h) (Or.inl ⟨by rfl, ?hyq7⟩) (by assumption) ?restq7
            case hyq7 => (intro w1 hS; go_simp <;> with_reducible rfl)
            try simp only [Act.put, List.getElem_toArray, List.getElem_cons_zero, List.getElem_cons_succ, List.setIfInBounds_toArray, List.set_cons_zero, List.set_cons_succ]
            refine Tail.take (i := 1) (v := ?vq8) rfl (by kernel_rfl) (by kernel_rfl) (by kernel_rfl) (by kernel_rfl) (by kernel_rfl) (fun _ _ _ h => h) (Or.inl ⟨by rfl, ?hyq8⟩) (by assumption) ?restq8
            case hyq8 => (intro w1 hS; have k := hS.2.1.cell (i := 1) rfl; go_simp <;> with_reducible rfl)
            try simp only [Act.put, List.getElem_toArray, List.getElem_cons_zero, List.getElem_cons_succ, List.setIfInBounds_toArray, List.set_cons_zero, List.set_cons_succ]
            refine Tail.take (i := 2) (v := ?vq9) rfl (by kernel_rfl) (by kernel_rfl) (by kernel_rfl) (by kernel_rfl) (by kernel_rfl) (fun _ _ _ h => h) (Or.inl ⟨by rfl, ?hyq9⟩) (by assumption) ?restq9
            case hyq9 => (intro w1 hS; go_simp <;> with_reducible rfl)
            try simp only [Act.put, List.getElem_toArray, List.getElem_cons_zero, List.getElem_cons_succ, List.setIfInBounds_toArray, List.set_cons_zero, List.set_cons_succ]
            refine Tail.take (i := 3) (v := ?vq10) rfl (by kernel_rfl) (by kernel_rfl) (by kernel_rfl) (by kernel_rfl) (by kernel_rfl) (fun _ _ _ h => h) (Or.inl ⟨by rfl, ?hyq10⟩) (by assumption) ?restq10
            case hyq10 => (intro w1 hS; go_simp <;> with_reducible rfl)
            try simp only [Act.put, List.getElem_toArray, List.getElem_cons_zero, List.getElem_cons_succ, List.setIfInBounds_toArray, List.set_cons_zero, List.set_cons_succ]
            refine Tail.take (i := 4) (v := ?vq11) rfl (by kernel_rfl) (by kernel_rfl) (by kernel_rfl) (by kernel_rfl) (by kernel_rfl) (fun _ _ _ h => h) (Or.inl ⟨by rfl, ?hyq11⟩) (by assumption) ?restq11
            case hyq11 => (intro w1 hS; go_simp <;> with_reducible rfl)
            try simp only [Act.put, List.getElem_toArray, List.getElem_cons_zero, List.getElem_cons_succ, List.setIfInBounds_toArray, List.set_cons_zero, List.set_cons_succ]
            refine Tail.take (i := 5) (v := ?vq12) rfl (by kernel_rfl) (by kernel_rfl) (by kernel_rfl) (by kernel_rfl) (by kernel_rfl) (fun _ _ _ h => h) (Or.inl ⟨by rfl, ?hyq12⟩) (by assumption) ?restq12
            case hyq12 => (intro w1 hS; have k := (HCP.out _ hS.1).1; have k2 := (HCP.out _ hS.1).2; go_simp <;> with_reducible rfl)
            try simp only [Act.put, List.getElem_toArray, List.getElem_cons_zero, List.getElem_cons_succ, List.setIfInBounds_toArray, List.set_cons_zero, List.set_cons_succ]
            refine Tail.ready (rs := [6]) (by kernel_rfl) (by simp) (Tail.AllReadyL.cons rfl (fun K hK => ?_) Tail.AllReadyL.nil)
            go_simp
            refine (pointOf_bel p.1 p.2 _ (by omega) (by omega)).mono ?_
            rintro e w1 ⟨rfl, hb⟩
            refine hK.out _ _ ⟨hHeld.1.keep hb, hHeld.2.1.keep hb, hHeld.2.2.trans (hb.mono hHeld.2.2.size)⟩ (fun hHeld => ?_)
            clear hK K
            try simp only [Act.put, List.getElem_toArray, List.getElem_cons_zero, List.getElem_cons_succ, List.setIfInBounds_toArray, List.set_cons_zero, List.set_cons_succ]
            have own1 := own_keep (own_keep HM.out.2.2.2.1 (Below.drew (Below.refl _ _))) hb
            clear hb
            refine Tail.ready (rs := [7]) (by kernel_rfl) (by simp) (Tail.AllReadyL.cons rfl (fun K hK => ?_) Tail.AllReadyL.nil)
            go_simp
            refine hK.out _ _ ⟨hHeld.1.keep (bel_made _ _ _), hHeld.2.1.keep (bel_made _ _ _), hHeld.2.2.trans ((bel_made _ _ _).mono hHeld.2.2.size)⟩ (fun hHeld => ?_)
            clear hK K
            try simp only [Act.put, List.getElem_toArray, List.getElem_cons_zero, List.getElem_cons_succ, List.setIfInBounds_toArray, List.set_cons_zero, List.set_cons_succ]
            obtain ⟨Q, hQ⟩ : ∃ X, X = w1.alloc (.cells #[.int .i64 p.1, .int .i64 p.2] 91) := ⟨_, rfl⟩
            have ownQ : Q.ownsRow wo.heap.size 91 2 va m ((s.2.take m).flatMap ptc) := by rw [hQ]; exact own_keep own1 (bel_made w1 _ _)
            have hnQ : Blk w1.heap.size 91 [.int .i64 p.1, .int .i64 p.2] Q := by rw [hQ]; exact Blk.new_ w1 #[.int .i64 p.1, .int .i64 p.2] 91
            rw [← hQ] at hHeld
            rw [← hQ]
            clear hQ own1
            have hbsQ := hHeld.2.2.size
            have HQ := Lib.hid (And.intro ownQ hnQ)
            clear ownQ hnQ
            obtain ⟨i2, hi2, iz2, iy2, ib2⟩ := info_parts PtiB.pt_info
            refine Tail.ready (rs := [8]) (by kernel_rfl) (by simp) (Tail.AllReadyL.cons rfl (fun K hK => ?_) Tail.AllReadyL.nil)
            refine step_app2 rfl (.tmp 27) (.tmp 33) 84 rfl wo.heap.size 91 i2 (.agg #[.int .i64 0, .int .i64 0]) 2 16 Tryd.underlying84 hi2 iz2 iy2 ib2 rfl (by decide) va m _ rfl HQ.out.1 ⟨w1.heap.size, 0, none⟩ 1 1 [.int .i64 p.1, .int .i64 p.2] rfl rfl (two_cells HQ.out.2) (two_ints _ _) (by unfold maxLen; omega) (by omega) hbsQ ?_
            intro v8 Q2 own8 grow8 nil8 _
            obtain ⟨g8, cb8, hv8, _⟩ := open_row own8 (fun h => by (have := (nil8.1 h).2; cases this))
            subst hv8
            refine hK.out _ _ ⟨blk_grown hHeld.1 grow8 (fun e => ((own_isT HQ.out.1 e).1.ne ⟨_, hHeld.1⟩ (by decide)) rfl), blk_grown hHeld.2.1 grow8 (fun e => ((own_isT HQ.out.1 e).1.ne ⟨_, hHeld.2.1⟩ (by decide)) rfl), hHeld.2.2.grown grow8 hbsQ (fun g hg => (own_isT HQ.out.1 hg).2)⟩ (fun hHeld => ?_)
            clear hK K
            try simp only [Act.put, List.getElem_toArray, List.getElem_cons_zero, List.getElem_cons_succ, List.setIfInBounds_toArray, List.set_cons_zero, List.set_cons_succ]
            have H8 := Lib.hid own8
            clear own8 grow8 nil8
            refine Tail.ready (rs := [9]) (by kernel_rfl) (by simp) (Tail.AllReadyL.cons rfl (fun K hK => ?_) Tail.AllReadyL.nil)
            go_simp
            refine hK.out _ _ hHeld (fun hHeld => ?_)
            clear hK K
            try simp only [Act.put, List.getElem_toArray, List.getElem_cons_zero, List.getElem_cons_succ, List.setIfInBounds_toArray, List.set_cons_zero, List.set_cons_succ]
            refine Tail.ready (rs := [10]) (by kernel_rfl) (by simp) (Tail.AllReadyL.last rfl (by rfl) (fun K hK => ?_) Tail.AllReadyL.nil)
            have k1 := hHeld.2.1.cell (i := 1) rfl
            have kf := hHeld.2.1.frozen
            have hfb := hHeld.2.1.set_ 1 (.slice (some ⟨g8, 0, none⟩) (m + 1) cb8)
            have hfs : Blk sb ST [.int .u32 2, .int .i32 a.1, .int .i32 a.2, .int .i32 b.1, .int .i32 b.2, .int .i32 d.1, .int .i32 d.2] (Q2.setCell ⟨xb, 1, none⟩ (.slice (some ⟨g8, 0, none⟩) (m + 1) cb8)) := hHeld.1.other (IsT.ne ⟨_, hHeld.1⟩ ⟨_, hHeld.2.1⟩ (by decide))
            have hfd := hHeld.2.2.setCell (p := ⟨xb, 1, none⟩) H2.out.2.2.2.1 (.slice (some ⟨g8, 0, none⟩) (m + 1) cb8)
            have hfo : (Q2.setCell ⟨xb, 1, none⟩ (.slice (some ⟨g8, 0, none⟩) (m + 1) cb8)).ownsRow wo.heap.size 91 2 (.slice (some ⟨g8, 0, none⟩) (m + 1) cb8) (m + 1) ((s.2.take (m + 1)).flatMap ptc) := by
              rw [HM.out.2.2.2.2, List.flatMap_append]
              exact own_block H8.out (fun g hg => Below.heap_setCell _ _ _ _ (fun e => ((own_isT H8.out hg).1.ne ⟨_, hHeld.2.1⟩ (by decide)) e))
            have HF := Lib.hid (And.intro hfb (And.intro hfs (And.intro hfd hfo)))
            clear hfb hfs hfd hfo hHeld
            go_simp
            refine hK.out _ _ ?_
            clear hK K
            try simp only [Act.put, List.getElem_toArray, List.getElem_cons_zero, List.getElem_cons_succ, List.setIfInBounds_toArray, List.set_cons_zero, List.set_cons_succ]
            refine Tail.done (by kernel_rfl) ?_ _
            go_wp2_with fail
            go_roundw
            case rel => exact ⟨m + 1, .slice (some ⟨g8, 0, none⟩) (m + 1) cb8, by go_num, by omega, HF.out.2.2.1, HF.out.2.1, HF.out.1, HF.out.2.2.2, rfl⟩
            case measure => simp [intOf]; omega
          · have hme : m = 2 := by omega
            have hps : s.2.take m = s.2 := by rw [hme, ← HX.out.2.2.2.2.1, List.take_length]
            rw [hps] at own
            obtain ⟨qv, cv, rfl, hAv, _, _, hBv⟩ := open_row own (fun h => by
              rcases own.2 with ⟨_, h2⟩ | ⟨_, _, _, h2, _⟩
              · omega
              · rw [h] at h2; cases h2)
            have hRv : Row wq w.heap.size qv 91 (s.2.flatMap ptc) := ⟨(own_isT own rfl).1, hAv, Nat.le_trans HX.out.2.1.size hBv⟩
            have hSw := HX.out.1.below hbq
            have hdw := HX.out.2.1.trans (hbq.mono HX.out.2.1.size)
            have x0 := hBx.cell (i := 0) rfl
            have x1 := hBx.cell (i := 1) rfl
            have hBw := hdw.size
            have hpm : m = s.2.length := by rw [hme, HX.out.2.2.2.2.1]
            have hll : (S.take k).length ≤ 1000 := by rw [List.length_take]; omega
            have HW := Lib.hid (And.intro hSw (And.intro hRv (And.intro hdw hpm)))
            clear hSw hRv hdw hbq hBs hBx own hAv hps hpm hme
            go_wp2_with ((with_reducible refine Gate.append ?_); refine PtiB.app_segR (ps := s.2) HW.out.2.2.2 rfl rfl rfl rfl HW.out.1 HW.out.2.1 hBw hll ?_; intro v' Z hZ hgr hT hat')
            go_roundw
            case rel => exact ⟨k + 1, by omega, by go_num, HW.out.2.2.1.grown hgr hBw (fun b hb => (hT b hb).2), by
              rw [HX.out.2.2.1]
              have e : s = (2, s.2) := by rw [← HX.out.2.2.2.2.2.1]
              rw [e]; exact hZ⟩
            case measure => simp [intOf]; omega
    · obtain rfl : n = k := by omega
      have htk : S.take n = S := by rw [HR.out.2.2, List.take_length]
      rw [htk] at hS
      have HF := Lib.hid (And.intro hb hS)
      clear hb hS htk
      go_wp2_with fail
      go_ret
      exact ⟨_, rfl, HF.out.2, HF.out.1⟩
end Go.Proofs.YtdeaodgcdacleaaDoor.LdI
namespace Go.Proofs.YtdeaodgcdacleaaDoor.LdJ
open Go.ChangeShapes Go.WideShapes Go.ChangeAt Go.RowKit
open Lst Mem RowG SpecB GlyM PthA PthC LdB LdC LdS LdG LdH LdI Trn MatO
set_option linter.unusedSimpArgs false
set_option linter.unusedVariables false
theorem Reps.nil_ : Reps [] [] := ⟨rfl, fun i h => absurd h (by simp)⟩
theorem Reps.app {a c : List Rec} {b d : List Sg} (h : Reps a b) (h' : Reps c d) : Reps (a ++ c) (b ++ d) := by
  refine ⟨by rw [List.length_append, List.length_append, h.1, h'.1], fun i hi => ?_⟩
  rw [List.length_append] at hi
  by_cases hk : i < b.length
  · rw [List.getD_eq_getElem?_getD, List.getD_eq_getElem?_getD, List.getElem?_append_left (by rw [h.1]; exact hk), List.getElem?_append_left hk, ← List.getD_eq_getElem?_getD, ← List.getD_eq_getElem?_getD]
    exact h.2 i hk
  · rw [List.getD_eq_getElem?_getD, List.getD_eq_getElem?_getD, List.getElem?_append_right (by rw [h.1]; omega), List.getElem?_append_right (by omega), ← List.getD_eq_getElem?_getD, ← List.getD_eq_getElem?_getD, h.1]
    exact h'.2 _ (by omega)
theorem Reps.map_ {S : List Sg} {f : Sg → Rec} {g : Sg → Sg} (h : ∀ s ∈ S, Rep (f s) (g s)) : Reps (S.map f) (S.map g) := by
  induction S with
  | nil => exact Reps.nil_
  | cons s S ih =>
    have h1 : Reps [f s] [g s] := ⟨rfl, fun i hi => by
      have : i = 0 := by simpa using hi
      subst this
      exact h s (by simp)⟩
    exact Reps.app h1 (ih fun t ht => h t (by simp [ht]))
theorem pok_sm {p : Pt} (h : POk 4 p) : Sm p := ⟨by have := h.1.1; omega, by have := h.2.1; omega⟩
theorem rep_of {s : Sg} (h : SegOk s) : Rep (recOf s) s := by
  obtain ⟨op, ps⟩ := s
  obtain ⟨h1, h2⟩ := h
  have hz : Sm ((0, 0) : Pt) := ⟨by omega, by omega⟩
  rcases h1 with ⟨h, hl⟩ | ⟨h, hl⟩ | ⟨h, hl⟩
  · match ps, hl with
    | [p], _ => exact ⟨rfl, ⟨pok_sm (h2 p (by simp)), hz⟩, .inl ⟨.inl h, rfl⟩⟩
  · match ps, hl with
    | [p], _ => exact ⟨rfl, ⟨pok_sm (h2 p (by simp)), hz⟩, .inl ⟨.inr h, rfl⟩⟩
  · match ps, hl with
    | [p, q], _ => exact ⟨rfl, ⟨pok_sm (h2 p (by simp)), pok_sm (h2 q (by simp))⟩, .inr ⟨h, rfl⟩⟩
theorem tp_sm {sx sy dx dy : Int} {p : Pt} (h : Q4 p) (hx : -2048 ≤ dx ∧ dx ≤ 2048) (hy : -2048 ≤ dy ∧ dy ≤ 2048) (hsx : -8 ≤ sx ∧ sx ≤ 7) (hsy : -8 ≤ sy ∧ sy ≤ 7) : Sm (tp sx sy dx dy p) := by
  have a := tdiv4 (mulb h.1.1 hsx)
  have b := tdiv4 (mulb h.2.1 hsy)
  exact ⟨by show -100000 ≤ dx + _ ∧ dx + _ ≤ 100000; omega, by show -100000 ≤ dy + _ ∧ dy + _ ≤ 100000; omega⟩
theorem rep_tr {s : Sg} {r : Ref} (h : SegOk s) (hx : -2048 ≤ r.2.1 ∧ r.2.1 ≤ 2048) (hy : -2048 ≤ r.2.2.1 ∧ r.2.2.1 ≤ 2048) (hsx : -8 ≤ r.2.2.2.1 ∧ r.2.2.2.1 ≤ 7) (hsy : -8 ≤ r.2.2.2.2 ∧ r.2.2.2.2 ≤ 7) : Rep (trRec r (recOf s)) (PthA.trans r s) := by
  obtain ⟨op, ps⟩ := s
  obtain ⟨h1, h2⟩ := h
  have hz : Q4 ((0, 0) : Pt) := ⟨⟨by omega, by omega⟩, by omega, by omega⟩
  rcases h1 with ⟨h, hl⟩ | ⟨h, hl⟩ | ⟨h, hl⟩
  · match ps, hl with
    | [p], _ => exact ⟨rfl, ⟨tp_sm (h2 p (by simp)) hx hy hsx hsy, tp_sm hz hx hy hsx hsy⟩, .inl ⟨.inl h, rfl⟩⟩
  · match ps, hl with
    | [p], _ => exact ⟨rfl, ⟨tp_sm (h2 p (by simp)) hx hy hsx hsy, tp_sm hz hx hy hsx hsy⟩, .inl ⟨.inr h, rfl⟩⟩
  · match ps, hl with
    | [p, q], _ => exact ⟨rfl, ⟨tp_sm (h2 p (by simp)) hx hy hsx hsy, tp_sm (h2 q (by simp)) hx hy hsx hsy⟩, .inr ⟨h, rfl⟩⟩
theorem reps_R {Gs : List Gl} {ds : List (List Int)} (hf : FontB Gs ds) : ∀ Rs : List Ref, (∀ r ∈ Rs, RefOk Gs r) → Reps (recsR Gs Rs) (pathR Gs Rs) ∧ (pathR Gs Rs).length ≤ 24 * Rs.length
  | [], _ => ⟨Reps.nil_, by simp [pathR]⟩
  | r :: Rs, h => by
    obtain ⟨ih, ihl⟩ := reps_R hf Rs (fun t ht => h t (by simp [ht]))
    obtain ⟨⟨x, hx, hl, h2⟩, a, b, c, d⟩ := h r (by simp)
    have hg : (Gs.getD x ([], [])).1.length ≤ 3 ∧ ∀ c ∈ (Gs.getD x ([], [])).1, ConOk c := by
      rcases hf.2.2 x hl with ⟨h, _⟩ | ⟨_, h, h', _⟩ | ⟨_, h, _⟩
      · rw [h]; exact ⟨by simp, fun c hc => by cases hc⟩
      · exact ⟨h.2, h'⟩
      · rw [h2] at h; simp at h
    have hxe : r.1.toNat = x := by rw [hx]; rfl
    have hok := pathC_ok hg.2
    have hln := pathC_len _ hg.2
    have h1 : Reps ((pathC (Gs.getD r.1.toNat ([], [])).1).map (fun s => trRec r (recOf s))) ((pathC (Gs.getD r.1.toNat ([], [])).1).map (PthA.trans r)) := Reps.map_ fun s hs => rep_tr (hok s (by rw [← hxe]; exact hs)) a b c d
    have e1 : recsR Gs (r :: Rs) = (pathC (Gs.getD r.1.toNat ([], [])).1).map (fun s => trRec r (recOf s)) ++ recsR Gs Rs := by
      unfold recsR partOf
      rw [List.flatMap_cons, List.map_map]
      rfl
    have e2 : pathR Gs (r :: Rs) = (pathC (Gs.getD r.1.toNat ([], [])).1).map (PthA.trans r) ++ pathR Gs Rs := by unfold pathR; rw [List.flatMap_cons]
    rw [e1, e2]
    refine ⟨Reps.app h1 ih, ?_⟩
    rw [List.length_append, List.length_map, List.length_cons, hxe]
    omega
theorem reps_G {Gs : List Gl} {ds : List (List Int)} (hf : FontB Gs ds) {x : Nat} (hx : x < Gs.length) : Reps (recG Gs (Gs.getD x ([], []))) (pathG Gs (Gs.getD x ([], []))) ∧ (pathG Gs (Gs.getD x ([], []))).length ≤ 72 := by
  unfold recG pathG
  by_cases hG : (Gs.getD x ([], [])).2 = []
  · rw [if_pos hG, if_pos hG]
    have hg : (Gs.getD x ([], [])).1.length ≤ 3 ∧ ∀ c ∈ (Gs.getD x ([], [])).1, ConOk c := by
      rcases hf.2.2 x hx with ⟨h, _⟩ | ⟨_, h, h', _⟩ | ⟨_, h, _⟩
      · rw [h]; exact ⟨by simp, fun c hc => by cases hc⟩
      · exact ⟨h.2, h'⟩
      · rw [hG] at h; simp at h
    have hok := pathC_ok hg.2
    have hln := pathC_len _ hg.2
    have := Reps.map_ (S := pathC (Gs.getD x ([], [])).1) (f := recOf) (g := id) fun s hs => rep_of (hok s hs)
    rw [List.map_id] at this
    exact ⟨this, by omega⟩
  · rw [if_neg hG, if_neg hG]
    rcases hf.2.2 x hx with ⟨_, h, _⟩ | ⟨h, _⟩ | ⟨_, h3, hro, _⟩
    · exact absurd h hG
    · exact absurd h hG
    · obtain ⟨a, b⟩ := reps_R hf _ hro
      exact ⟨a, by have : (pathR Gs (Gs.getD x ([], [])).2).length ≤ 72 := by omega
                   exact this⟩
theorem clone_nil (w : World) : Calls Tryd.prog 17 #[.slice none 0 0] w fun e w' => e = .returned (.slice none 0 0) ∧ w = w' := by
  have q := fun (w : World) (a : Option Addr) (n c n' c' : Nat) => Lib.run_eql_slice_nil (P := Tryd.prog) w 38 5 a n c n' c' Tryd.underlying38
  go_enter Tryd.func17, Tryd.ntmps17
  go_wp2
  go_ret
  exact ⟨rfl, rfl⟩
theorem lis_at {w : World} {B : Nat} {v : Value} {ds : List (List Int)} (h : Lis w B v ds) : ∃ A c, v = .slice A ds.length c ∧ ∀ i, i < ds.length → ∃ g u, A = some ⟨g, 0, none⟩ ∧ w.cell? ⟨g, i, none⟩ = some u ∧ El w B u (ds.getD i []) := by
  obtain ⟨xs, ho, hi⟩ := h
  by_cases hn : v = .slice none 0 0
  · have h0 : ds.length = 0 := by
      rcases ho.2 with ⟨_, h⟩ | ⟨_, _, _, h, _⟩
      · exact h
      · rw [hn] at h; cases h
    exact ⟨none, 0, by rw [hn, h0], fun i hl => by omega⟩
  · obtain ⟨g, c, hv, hA, _⟩ := open_row ho hn
    refine ⟨_, c, hv, fun i hl => ?_⟩
    obtain ⟨u, hu, he⟩ := hi i hl
    have := hA i _ hu
    rw [Nat.zero_add] at this
    exact ⟨g, u, rfl, this, he⟩
theorem made_el {B : Nat} {l : List Int} {w w' : World} {e : Ending} (h : Made B l w e w') : ∃ u, e = .returned u ∧ El w' B u l ∧ Below B w w' := by
  obtain ⟨v, rfl, ho, hn, hb⟩ := h
  obtain ⟨g, c, rfl, _⟩ := open_row ho hn
  exact ⟨_, rfl, .inr ⟨g, c, rfl, Row.of_own ho (Nat.le_refl _)⟩, hb⟩
def GlyP (B : Nat) (S : List Sg) (w : World) (e : Ending) (w' : World) : Prop := ∃ v', e = .returned (.tuple #[v', .int .i64 0]) ∧ PtiB.Sgs w' B v' S ∧ Below B w w'
set_option maxHeartbeats 20000000 in
set_option maxRecDepth 4000 in
theorem impl_any (B x : Nat) (v : Value) (ds : List (List Int)) (Gs : List Gl) (w : World) (hL : Lis w B v ds) (hf : FontB Gs ds) (hx : x < Gs.length) :
    Calls Tryd.prog 8 #[v, .int .i64 (x : Int)] w (GlyP w.heap.size (pathG Gs (Gs.getD x ([], []))) w) := by
  obtain ⟨A, c, rfl, hat⟩ := lis_at hL
  obtain ⟨N, hN⟩ : ∃ N, ds.length = N := ⟨_, rfl⟩
  rw [hN] at hat
  rw [hN]
  have hN9 : N ≤ 9 := by rw [← hN, hf.1]; exact hf.2.1
  have hGN : Gs.length = N := by rw [← hN, hf.1]
  have hx9 : x ≤ 9 := by omega
  have HR := Lib.hid (And.intro hat (And.intro hN (And.intro hf (reps_G hf hx))))
  have HX := Lib.hid hx
  clear hL hat hN hf hx hGN
  go_enter Tryd.func8, Tryd.ntmps8
  go_wp2_with fail
  go_loopw [6, 13] (fun u i wr => ∃ k : Nat, k ≤ N ∧ i = .int .i64 k ∧ Below w.heap.size w wr ∧ Lis wr w.heap.size u (ds.take k) ∧ u.oneCell' = true) (fun _ i _ => N - (intOf i).toNat)
  case atStart => exact ⟨0, Nat.zero_le _, rfl, Below.refl _ _, by rw [List.take_zero]; exact Lis.nil_ w _, rfl⟩
  case round =>
    obtain ⟨k, hk, rfl, hb, hS, h1u⟩ := hrel
    by_cases hlt : k < N
    · obtain ⟨g, u, rfl, hcl, hel⟩ := HR.out.1 k hlt
      have hkd : k < ds.length := by rw [HR.out.2.1]; exact hlt
      have c1 : wr.cell? ⟨g, k, none⟩ = some u := (hb.cell (p := ⟨g, k, none⟩) (World.block_lt_of_cell? w _ hcl)).trans hcl
      have hel1 : El wr B u (ds.getD k []) := hel.block fun g hg => hb.block g hg.lt
      have htk : ds.take (k + 1) = ds.take k ++ [ds.getD k []] := by
        rw [List.take_succ_eq_append_getElem hkd, List.getD_eq_getElem?_getD, List.getElem?_eq_getElem hkd]
        rfl
      have hll : (ds.take k).length ≤ 1000 := by rw [List.length_take]; omega
      have hcl2 : Hid (Calls Tryd.prog 17 #[u] wr fun e w' => ∃ u', e = .returned u' ∧ El w' wr.heap.size u' (ds.getD k []) ∧ Below wr.heap.size wr w') := Lib.hid (by
        rcases hel1 with ⟨rfl, h0⟩ | ⟨gg, cc, rfl, hrow⟩
        · refine (clone_nil wr).mono ?_
          rintro e w' ⟨rfl, rfl⟩
          exact ⟨_, rfl, .inl ⟨rfl, h0⟩, Below.refl _ _⟩
        · have hlen : (ds.getD k []).length ≤ 1000 := by
            rcases HR.out.2.2.1.2.2 k (by rw [← HR.out.2.2.1.1]; exact hkd) with ⟨_, _, h⟩ | ⟨_, _, _, _, h⟩ | ⟨_, _, _, _, h⟩
            · rw [h]; simp
            · exact h
            · exact h
          refine (SfntB.clone_any gg 0 cc (ds.getD k []) wr hrow.2.1 (by omega)).mono ?_
          intro e w' h
          exact made_el h)
      have h1e : u.oneCell' = true := hel1.one
      have HX2 := Lib.hid (And.intro hb (And.intro hS htk))
      clear hb hS hcl hel hel1 htk hkd
      go_wp2_with fail
      refine hcl2.out.mono ?_
      rintro e W1 ⟨u', rfl, he1, hd1⟩
      obtain ⟨A', n', c', rfl, _⟩ := he1.rd
      have hB1 := Nat.le_trans HX2.out.1.size hd1.size
      have he2 : El W1 w.heap.size (.slice A' n' c') (ds.getD k []) := by
        rcases he1 with h | ⟨g, c, hv, hr⟩
        · exact .inl h
        · exact .inr ⟨g, c, hv, hr.1, hr.2.1, Nat.le_trans HX2.out.1.size hr.2.2⟩
      have HY := Lib.hid (And.intro (HX2.out.2.1.below hd1) (And.intro he2 (HX2.out.1.trans (hd1.mono HX2.out.1.size))))
      clear he1 he2 hd1
      go_wp2_with ((with_reducible refine Gate.append ?_); refine app_el (l := ds.getD k []) rfl rfl rfl rfl HY.out.1 HY.out.2.1 hB1 hll ?_; intro v' Z hZ hgr hT h1Z hnz)
      go_roundw
      case rel => exact ⟨k + 1, by omega, by go_num, HY.out.2.2.grown hgr hB1 (fun b hb => (hT b hb).2), by rw [HX2.out.2.2]; exact hZ, h1Z⟩
      case measure => simp [intOf]; omega
    · obtain rfl : N = k := by omega
      have htk : ds.take N = ds := by rw [← HR.out.2.1, List.take_length]
      rw [htk] at hS
      have HZ := Lib.hid (zz_any u6 x ds Gs wr hS.mat HR.out.2.2.1 HX.out)
      have HB := Lib.hid hb
      clear hb hS htk
      have wx : IntKind.u16.wrap (x : Int) = (x : Int) := IntWalk.u16_in _ (by omega)
      go_wp2_with fail
      refine HZ.out.mono ?_
      rintro e W1 ⟨v1, rfl, hs1, hd1⟩
      have HSO := Lib.hid (segsOf_any wr.heap.size v1 _ _ W1 hs1 HR.out.2.2.2.1 (by have := HR.out.2.2.2.2; omega))
      have HD1 := Lib.hid hd1
      clear hs1 hd1
      go_wp2_with fail
      refine HSO.out.mono ?_
      rintro e W2 ⟨v2, rfl, hs2, hd2⟩
      have HF := Lib.hid (And.intro hs2 hd2)
      clear hs2 hd2
      go_wp2_with fail
      go_ret2
      exact ⟨v2, rfl, PtiB.sgs_mono HF.out.1 (Nat.le_trans HB.out.size HD1.out.size), HB.out.trans ((HD1.out.trans (HF.out.2.mono HD1.out.size)).mono HB.out.size)⟩
end Go.Proofs.YtdeaodgcdacleaaDoor.LdJ
