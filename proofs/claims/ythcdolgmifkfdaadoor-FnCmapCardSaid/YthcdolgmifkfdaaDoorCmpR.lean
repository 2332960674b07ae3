/- Contract of the reading of a table of letters: format 4. -/
import Derived.Test.YthcdolgmifkfdaaDoorCmpQ
namespace Go.Proofs.YthcdolgmifkfdaaDoor.CmpR
open Go.ChangeShapes Go.WideShapes Go.ChangeAt Go.RowKit
open Lst Mem RowG SpecB GlyM CadL FourB View VewZ CmpC CmpM CmpN CmpQ
set_option linter.unusedSimpArgs false
set_option linter.unusedVariables false
set_option linter.unnecessarySimpa false
def L4 (hd : List Int) (SG : List Sg4) (gl : List Int) : List Int := hd ++ (SG.map (·.1) ++ ([0] ++ (SG.map (·.2.1) ++ (SG.map (·.2.2.1) ++ (SG.map (·.2.2.2) ++ gl)))))
theorem L4_len {hd : List Int} (h7 : hd.length = 7) (SG : List Sg4) (gl : List Int) : (L4 hd SG gl).length = 8 + 4 * SG.length + gl.length := by
  simp only [L4, List.length_append, List.length_map, List.length_singleton, h7]
  omega
theorem app_r {a b : List Int} {k n : Nat} (h : a.length = n) : (a ++ b).getD (n + k) 0 = b.getD k 0 := by
  rw [List.getD_eq_getElem?_getD, List.getElem?_append_right (by omega), ← List.getD_eq_getElem?_getD, show n + k - a.length = k by omega]
theorem app_l {a b : List Int} {k : Nat} (h : k < a.length) : (a ++ b).getD k 0 = a.getD k 0 := by
  rw [List.getD_eq_getElem?_getD, List.getElem?_append_left h, ← List.getD_eq_getElem?_getD]
theorem map_get (f : Sg4 → Int) (SG : List Sg4) {k : Nat} (h : k < SG.length) : (SG.map f).getD k 0 = f (SG.getD k d4) := by
  rw [List.getD_eq_getElem?_getD, List.getD_eq_getElem?_getD, List.getElem?_map, List.getElem?_eq_getElem h]
  rfl
theorem L4_e {hd : List Int} (h7 : hd.length = 7) (SG : List Sg4) (gl : List Int) {k : Nat} (h : k < SG.length) : (L4 hd SG gl).getD (7 + k) 0 = (SG.getD k d4).1 := by
  rw [L4, app_r h7, app_l (by simpa using h), map_get _ SG h]
theorem L4_s {hd : List Int} (h7 : hd.length = 7) (SG : List Sg4) (gl : List Int) {k : Nat} (h : k < SG.length) : (L4 hd SG gl).getD (7 + (SG.length + (1 + k))) 0 = (SG.getD k d4).2.1 := by
  rw [L4, app_r h7, app_r (by simp), app_r (by simp), app_l (by simpa using h), map_get _ SG h]
theorem L4_d {hd : List Int} (h7 : hd.length = 7) (SG : List Sg4) (gl : List Int) {k : Nat} (h : k < SG.length) : (L4 hd SG gl).getD (7 + (SG.length + (1 + (SG.length + k)))) 0 = (SG.getD k d4).2.2.1 := by
  rw [L4, app_r h7, app_r (by simp), app_r (by simp), app_r (by simp), app_l (by simpa using h), map_get _ SG h]
theorem L4_o {hd : List Int} (h7 : hd.length = 7) (SG : List Sg4) (gl : List Int) {k : Nat} (h : k < SG.length) : (L4 hd SG gl).getD (7 + (SG.length + (1 + (SG.length + (SG.length + k))))) 0 = (SG.getD k d4).2.2.2 := by
  rw [L4, app_r h7, app_r (by simp), app_r (by simp), app_r (by simp), app_r (by simp), app_l (by simpa using h), map_get _ SG h]
theorem einfo4 : (Tryd.prog.info? 112).map (fun i => (i.zero, i.size, i.bytes)) = some (some (.agg #[.int .u16 0, .int .u16 0, .int .u16 0, .int .u16 0]), 4, 8) := by kernel_rfl
/-- a row of structs of four cells, filled up to k -/
def Fil4 (l : List Sg4) (k : Nat) (cs : List Value) : Prop := cs.length = 4 * l.length ∧ ∀ i j u, i < k → (ec (l.getD i d4))[j]? = some u → cs[i * 4 + j]? = some u
theorem Fil4.step {l : List Sg4} {k : Nat} {cs : List Value} {a b c d : Value} (h : Fil4 l k cs) (hk : k < l.length) (hf : ec (l.getD k d4) = [a, b, c, d]) : Fil4 l (k + 1) ((((cs.set (k * 4) a).set (k * 4 + 1) b).set (k * 4 + 2) c).set (k * 4 + 3) d) := by
  obtain ⟨h1, h2⟩ := h
  refine ⟨by simp [h1], fun i j u hi hu => ?_⟩
  have hj : j < 4 := by rw [← ec_len (l.getD i d4)]; exact (List.getElem?_eq_some_iff.1 hu).1
  rcases Nat.eq_or_lt_of_le (Nat.le_of_lt_succ hi) with rfl | hi
  · rw [hf] at hu
    match j, hj with
    | 0, _ => simp at hu; subst hu; rw [List.getElem?_set_ne (by omega), List.getElem?_set_ne (by omega), List.getElem?_set_ne (by omega), Nat.add_zero, List.getElem?_set_self (by omega)]
    | 1, _ => simp at hu; subst hu; rw [List.getElem?_set_ne (by omega), List.getElem?_set_ne (by omega), List.getElem?_set_self (by simp; omega)]
    | 2, _ => simp at hu; subst hu; rw [List.getElem?_set_ne (by omega), List.getElem?_set_self (by simp; omega)]
    | 3, _ => simp at hu; subst hu; rw [List.getElem?_set_self (by simp; omega)]
  · rw [List.getElem?_set_ne (by omega), List.getElem?_set_ne (by omega), List.getElem?_set_ne (by omega), List.getElem?_set_ne (by omega)]
    exact h2 i j u hi hu
theorem Fil4.at_ {l : List Sg4} {cs : List Value} {w : World} {g : Nat} {t : TypeId} (h : Fil4 l l.length cs) (hb : Blk g t cs w) : At w g 0 (l.flatMap ec) := fun q u hu => by
  have hq : q < (l.flatMap ec).length := (List.getElem?_eq_some_iff.1 hu).1
  have hfl : ∀ (l : List Sg4), (l.flatMap ec).length = 4 * l.length := fun l => by
    induction l with
    | nil => rfl
    | cons x l ih => rw [List.flatMap_cons, List.length_append, ih, ec_len, List.length_cons]; omega
  rw [hfl] at hq
  have hi : q / 4 < l.length := by omega
  have e := flat_at ec 4 ec_len d4 l (q / 4) (q % 4) hi (by omega)
  rw [show 4 * (q / 4) + q % 4 = q by omega] at e
  rw [e] at hu
  have := h.2 _ _ u hi hu
  rw [show q / 4 * 4 + q % 4 = q by omega] at this
  rw [Nat.zero_add]
  exact hb.cell this
theorem even_bit {n : Nat} (h : n ≤ 1000) : bits BinOp.and IntKind.u16 (2 * (n : Int)) 1 = 0 := by
  show IntKind.u16.wrap ((BitVec.ofInt 16 (2 * (n : Int)) &&& BitVec.ofInt 16 1).toNat : Int) = _
  rw [BitVec.toNat_and, show (BitVec.ofInt 16 1).toNat = 2 ^ 1 - 1 by decide, Nat.and_two_pow_sub_one_eq_mod, BitVec.toNat_ofInt, IntKind.wrap_u16]
  omega
/-- what reading a table of format 4 answers -/
def Mk4 (w : World) (SG : List Sg4) (gl : List Int) (m ib : Nat) (e : Ending) (w' : World) : Prop :=
  ∃ buf eb lb bb A c', e = .returned (.tuple #[buf, .func (Fn.func 28) #[] #[.pointer (some ⟨eb, 0, none⟩), .pointer (some ⟨lb, 0, none⟩), .pointer (some ⟨bb, 0, none⟩)], .nilIface]) ∧ w'.cell? ⟨eb, 0, none⟩ = some (.slice A m c') ∧ (0 < m → ∃ g', A = some ⟨g', 0, none⟩ ∧ At w' g' 0 (SG.flatMap ec)) ∧ w'.cell? ⟨lb, 0, none⟩ = some (.int .u32 ((2 * gl.length : Nat) : Int)) ∧ w'.cell? ⟨bb, 0, none⟩ = some (.int .u32 (ib : Int)) ∧ Below w.heap.size w w'
set_option maxHeartbeats 8000000 in
set_option maxRecDepth 4000 in
theorem mk4 (fb g n c off len m ib : Nat) (hd : List Int) (SG : List Sg4) (gl : List Int) (w : World) (hF : Fc fb g n c w) (h7 : hd.length = 7) (hd3 : hd.getD 3 0 = 2 * (m : Int)) (hA : At w g off (vals .u8 (words (L4 hd SG gl)))) (hm : m = SG.length) (hib : ib = off + 16 + 8 * m) (hn : n = ib + 2 * gl.length) (hnc : n ≤ c) (ho : off ≤ 100) (hlen : len ≤ 60000) (h40 : m ≤ 100) (hgl : gl.length ≤ 1000) (hok : Ok4 SG) :
    Calls Tryd.prog 21 #[.pointer (some ⟨fb, 0, none⟩), .slice none 0 0, .int .u32 (off : Int), .int .u32 (len : Int)] w
      (Mk4 w SG gl m ib) := by
  have hLl := L4_len h7 SG gl
  rw [← hm] at hLl
  obtain ⟨p, hp⟩ : ∃ p : Nat, p = 8 * m + 2 := ⟨_, rfl⟩
  obtain ⟨m2, hm2⟩ : ∃ m2 : Nat, m2 = 2 * m := ⟨_, rfl⟩
  obtain ⟨G2, hG2⟩ : ∃ G2 : Nat, G2 = 2 * gl.length := ⟨_, rfl⟩
  have L3 : (L4 hd SG gl).getD 3 0 = (m2 : Int) := by rw [L4, app_l (by omega), hd3, hm2]; simp
  have hglt : g < w.heap.size := World.block_lt_of_cell? w _ (hA 0 (.int .u8 ((words (L4 hd SG gl)).getD 0 0)) (by rw [vals_at, List.getD_eq_getElem?_getD]; have h4 : 0 < (words (L4 hd SG gl)).length := (by rw [words_len]; omega); rw [List.getElem?_eq_getElem h4]; rfl))
  have hAW : ∀ W, Below w.heap.size w W → At W g off (vals .u8 (words (L4 hd SG gl))) := fun W hb j u hu => (hb.cell (p := ⟨g, off + j, none⟩) hglt).trans (hA j u hu)
  obtain ⟨c1, hc1⟩ : ∃ c1, c1 = c - off := ⟨_, rfl⟩
  obtain ⟨c2, hc2⟩ : ∃ c2, c2 = c - (off + 14) := ⟨_, rfl⟩
  have hc1b : 14 ≤ c1 := by omega
  have hc2b : p ≤ c2 := by omega
  have HV := Lib.hid (fun W (hb : Below w.heap.size w W) => view_all fb g n c off 14 (.slice none 0 0) W (hF.below hb).src (by omega) hnc (by omega))
  have HU3 := Lib.hid (fun W (hb : Below w.heap.size w W) => u16G (a := off + 6) (n := 8) (c := c1 - 6) (hAW W hb) (by omega) (i := 3) (by omega) L3 (by omega) (by omega))
  have HV2 := Lib.hid (fun W (hb : Below w.heap.size w W) => view_all fb g n c (off + 14) p (.slice (some ⟨g, off, none⟩) 14 c1) W (hF.below hb).src (by omega) hnc (by omega))
  rw [show vat (off + 14) p c = off + 14 from if_neg (by omega), ← hc2] at HV2
  have f3 := hF.off
  have f4 := hF.len
  have t1 : IntKind.u32.wrap ((off : Int) + 14) = (off : Int) + 14 := IntWalk.u32_in _ (by omega)
  have t2' : ¬ ((n : Int) < (off : Int) + 14) := by omega
  have t3 : IntKind.u32.wrap (0 + (off : Int)) = (off : Int) := by rw [Int.zero_add]; exact IntWalk.u32_in _ (by omega)
  have t3' : IntKind.u32.wrap (off : Int) = (off : Int) := IntWalk.u32_in _ (by omega)
  have t4 : IntKind.i64.wrap (off : Int) = (off : Int) := IntWalk.i64_in _ (by omega)
  have t5 : bits BinOp.and IntKind.u16 (m2 : Int) 1 = 0 := by have := even_bit (n := m) (by omega); rw [show (m2 : Int) = 2 * (m : Int) by omega]; exact this
  have t6 : (m2 : Int).tdiv 2 = (m : Int) := by rw [show (m2 : Int) = (m : Int) * 2 by omega]; exact Int.mul_tdiv_cancel _ (by decide)
  have t6' : IntKind.u16.wrap (m : Int) = (m : Int) := IntWalk.u16_in _ (by omega)
  have t7 : IntKind.u32.wrap (m : Int) = (m : Int) := IntWalk.u32_in _ (by omega)
  have t8 : ¬ ((20000 : Int) < (m : Int)) := by omega
  obtain ⟨m8, hm8⟩ : ∃ m8 : Nat, (8 : Int) * (m : Int) = (m8 : Int) := ⟨8 * m, by omega⟩
  have t9 : IntKind.u32.wrap (m8 : Int) = (m8 : Int) := IntWalk.u32_in _ (by omega)
  have t9' : (m8 : Int) + 2 = (p : Int) := by omega
  have t10 : IntKind.u32.wrap (p : Int) = (p : Int) := IntWalk.u32_in _ (by omega)
  have t11 : (off : Int) + 14 + (p : Int) = (ib : Int) := by omega
  have t11' : IntKind.u32.wrap (ib : Int) = (ib : Int) := IntWalk.u32_in _ (by omega)
  have t11'' : ¬ ((n : Int) < (ib : Int)) := by omega
  have t12 : IntKind.u32.wrap (0 + ((off : Int) + 14)) = (off : Int) + 14 := by rw [Int.zero_add]; exact t1
  have t13 : IntKind.i64.wrap ((off : Int) + 14) = ((off + 14 : Nat) : Int) := by rw [IntWalk.i64_in _ (by omega)]; rfl
  have t14 : IntKind.i64.wrap (p : Int) = (p : Int) := IntWalk.i64_in _ (by omega)
  have t16 : ¬ (c1 = 6) := by omega
  have t18 : 6 ≤ c1 := by omega
  have t19 : IntKind.u32.wrap (0 + (ib : Int)) = (ib : Int) := by rw [Int.zero_add]; exact t11'
  have t20 : (n : Int) - (ib : Int) = (G2 : Int) := by omega
  have t21 : IntKind.u32.wrap (G2 : Int) = (G2 : Int) := IntWalk.u32_in _ (by omega)
  have e0 : vat off 14 c = off := by simp [vat]
  rw [e0, ← hc1] at HV
  have HF := Lib.hid hF
  have HA := Lib.hid (And.intro hAW hLl)
  have HP := Lib.hid (And.intro hok (And.intro hm (And.intro hp (And.intro hG2 (And.intro h7 hm2)))))
  have HQ := Lib.hid (And.intro hib hn)
  clear hF hA hAW hok hm e0 hp hn hib L3 hLl hc1 hc2 h7 hG2 hd3 hm2
  go_enter Tryd.func21, Tryd.ntmps21
  go_wp2_with fail
  go_quiet ((go_at_call 24; exact quiet_same (HV.out _ (below_draws (Below.refl _ _) _))))
  go_wp2_with fail
  refine (HU3.out _ (below_draws (Below.refl _ _) _)).mono ?_
  rintro e W ⟨rfl, hW⟩
  have hbW : Below w.heap.size w W := by rw [← hW]; exact Below.drew (below_draws (Below.refl _ _) _)
  have hFW := HF.out.below hbW
  have x3 := hFW.off
  have x4 := hFW.len
  have HW := Lib.hid hbW
  have HV3 := Lib.hid (fun k => HV2.out (W.drewN k) (below_draws hbW k))
  clear hW hbW hFW f3 f4
  go_wp2_with fail
  go_quiet ((go_at_call 24; exact quiet_same (HV3.out _)))
  obtain ⟨X, hX⟩ : ∃ X, X = W.drewN nq := ⟨_, rfl⟩
  have hbX : Below w.heap.size w X := by rw [hX]; exact below_draws HW.out _
  rw [← hX]
  have HX := Lib.hid hbX
  clear hX hbX x3 x4 HV3
  obtain ⟨i0, hi0, hz0, hz1, hz2⟩ := info_parts einfo4
  go_wp2_with (at_make; refine wpList_make_full _ rfl _ _ 110 rfl w.heap.size 112 i0 (.agg #[.int .u16 0, .int .u16 0, .int .u16 0, .int .u16 0]) 4 Tryd.underlying110 hi0 hz0 hz1 .u16 .u16 _ _ m rfl rfl ?c1 ?c2 ?c3 ?c4 ?c5 ?_)
  case c1 => rfl
  case c2 => rfl
  case c3 => rw [hz2]; omega
  case c4 => unfold maxLen; omega
  case c5 => exact HX.out.size
  intro w1 hown hgrow
  obtain ⟨cs0, hB0, hl0⟩ := own_blk hown
  have hb1 : Below w.heap.size w w1 := HX.out.grown hgrow HX.out.size (fun j hj => by cases hj)
  have hgs : w.heap.size ≤ X.heap.size := HX.out.size
  have hXs : X.heap.size < w1.heap.size := hB0.lt
  obtain ⟨gb, hgb⟩ : ∃ gb, gb = X.heap.size := ⟨_, rfl⟩
  obtain ⟨eb, heb⟩ : ∃ eb, eb = w1.heap.size := ⟨_, rfl⟩
  obtain ⟨Y, hY⟩ : ∃ Y, Y = w1.alloc (.cells #[.slice (some ⟨X.heap.size, 0, none⟩) m m] 110) := ⟨_, rfl⟩
  have hBY : Blk gb 112 cs0 Y := by rw [hY, hgb]; exact hB0.keep (bel_made _ _ _)
  have hEY : Blk eb 110 [.slice (some ⟨gb, 0, none⟩) m m] Y := by rw [hY, hgb, heb]; exact Blk.new_ w1 _ _
  have hbY : Below w.heap.size w Y := by rw [hY]; exact hb1.alloc hb1.size _
  have hne : gb ≠ eb := by omega
  have hgw : w.heap.size ≤ gb := by omega
  have HY := Lib.hid (And.intro hBY (And.intro hEY hbY))
  have HL0 := Lib.hid hl0
  clear hown hgrow hB0 hb1 hgs hXs hBY hEY hbY hl0 HX HW
  go_wp2_with fail
  rw [← hY, ← hgb, ← heb]
  clear hY hgb heb
  go_loopw [102] (fun i wr => ∃ (k : Nat) (cs : List Value), i = .int .i64 k ∧ k ≤ m ∧ Blk gb 112 cs wr ∧ Fil4 SG k cs ∧ Blk eb 110 [.slice (some ⟨gb, 0, none⟩) m m] wr ∧ Below w.heap.size w wr) (fun i _ => m - (intOf i).toNat)
  case atStart => exact ⟨0, cs0, rfl, Nat.zero_le _, HY.out.1, ⟨by rw [HL0.out, HP.out.2.1]; omega, fun i j u h => by omega⟩, HY.out.2.1, HY.out.2.2⟩
  case round =>
    clear HY
    obtain ⟨k, cs, rfl, hk, hB, hfl, hE, hbel⟩ := hrel
    obtain ⟨V, hV⟩ : ∃ V, V = wr := ⟨_, rfl⟩
    subst hV
    by_cases hlt : k < m
    · have hcl := hfl.1
      rw [← HP.out.2.1] at hcl
      have hkl : k < SG.length := by rw [← HP.out.2.1]; exact hlt
      obtain ⟨u0, g0⟩ : ∃ u, cs[k * 4]? = some u := ⟨_, List.getElem?_eq_getElem (by omega)⟩
      obtain ⟨u1, g1⟩ : ∃ u, cs[k * 4 + 1]? = some u := ⟨_, List.getElem?_eq_getElem (by omega)⟩
      obtain ⟨u2, g2⟩ : ∃ u, cs[k * 4 + 2]? = some u := ⟨_, List.getElem?_eq_getElem (by omega)⟩
      obtain ⟨u3, g3⟩ : ∃ u, cs[k * 4 + 3]? = some u := ⟨_, List.getElem?_eq_getElem (by omega)⟩
      have hq := HP.out.1.rng _ (getD_mem SG k d4 hkl)
      have l0 := L4_e HP.out.2.2.2.2.1 SG gl hkl
      have l1 := L4_s HP.out.2.2.2.2.1 SG gl hkl
      have l2 := L4_d HP.out.2.2.2.2.1 SG gl hkl
      have l3 := L4_o HP.out.2.2.2.2.1 SG gl hkl
      rw [← HP.out.2.1] at l1 l2 l3
      have hst := hfl.step hkl (a := .int .u16 (SG.getD k d4).1) (b := .int .u16 (SG.getD k d4).2.1) (c := .int .u16 (SG.getD k d4).2.2.1) (d := .int .u16 (SG.getD k d4).2.2.2) rfl
      obtain ⟨q, hq0⟩ : ∃ q, SG.getD k d4 = q := ⟨_, rfl⟩
      obtain ⟨xe, xs, xd, xo⟩ := q
      rw [hq0] at hq l0 l1 l2 l3 hst
      simp only at hq l0 l1 l2 l3 hst
      obtain ⟨kk, hkk⟩ : ∃ d : Nat, (2 : Int) * (k : Int) = (d : Int) := ⟨2 * k, by omega⟩
      obtain ⟨n2, hn2⟩ : ∃ d : Nat, (2 : Int) * (m : Int) = (d : Int) := ⟨2 * m, by omega⟩
      obtain ⟨n4, hn4⟩ : ∃ d : Nat, (4 : Int) * (m : Int) = (d : Int) := ⟨4 * m, by omega⟩
      obtain ⟨n6, hn6⟩ : ∃ d : Nat, (6 : Int) * (m : Int) = (d : Int) := ⟨6 * m, by omega⟩
      obtain ⟨r2, hr2⟩ : ∃ d : Nat, (n2 : Int) + 2 = (d : Int) := ⟨n2 + 2, by omega⟩
      obtain ⟨r4, hr4⟩ : ∃ d : Nat, (n4 : Int) + 2 = (d : Int) := ⟨n4 + 2, by omega⟩
      obtain ⟨r6, hr6⟩ : ∃ d : Nat, (n6 : Int) + 2 = (d : Int) := ⟨n6 + 2, by omega⟩
      obtain ⟨s2, hs2⟩ : ∃ d : Nat, (r2 : Int) + (kk : Int) = (d : Int) := ⟨r2 + kk, by omega⟩
      obtain ⟨s4, hs4⟩ : ∃ d : Nat, (r4 : Int) + (kk : Int) = (d : Int) := ⟨r4 + kk, by omega⟩
      obtain ⟨s6, hs6⟩ : ∃ d : Nat, (r6 : Int) + (kk : Int) = (d : Int) := ⟨r6 + kk, by omega⟩
      have hpp : p = 8 * m + 2 := HP.out.2.2.1
      have HC0 := Lib.hid (fun n => u16G (a := off + 14 + kk) (n := p - kk) (c := c2 - kk) (HA.out.1 (V.drewN n) (below_draws hbel n)) (by omega) (i := 7 + k) (by rw [HA.out.2]; omega) l0 hq.1 (by omega))
      have HC1 := Lib.hid (fun n => u16G (a := off + 14 + s2) (n := p - s2) (c := c2 - s2) (HA.out.1 (V.drewN n) (below_draws hbel n)) (by omega) (i := 7 + (m + (1 + k))) (by rw [HA.out.2]; omega) l1 hq.2.1 (by omega))
      have HC2 := Lib.hid (fun n => u16G (a := off + 14 + s4) (n := p - s4) (c := c2 - s4) (HA.out.1 (V.drewN n) (below_draws hbel n)) (by omega) (i := 7 + (m + (1 + (m + k)))) (by rw [HA.out.2]; omega) l2 hq.2.2.1 (by omega))
      have HC3 := Lib.hid (fun n => u16G (a := off + 14 + s6) (n := p - s6) (c := c2 - s6) (HA.out.1 (V.drewN n) (below_draws hbel n)) (by omega) (i := 7 + (m + (1 + (m + (m + k))))) (by rw [HA.out.2]; omega) l3 hq.2.2.2 (by omega))
      have v0 := hE.cell (i := 0) rfl
      have HS := Lib.hid (And.intro hst (And.intro g0 (And.intro g1 (And.intro g2 (And.intro g3 (And.intro hB (And.intro hE hbel)))))))
      have z1 : (0 : Int) * (m : Int) = 0 := Int.zero_mul _
      have z2 : IntKind.i64.wrap 0 = 0 := rfl
      have z3 : (0 : Int) + (kk : Int) = (kk : Int) := Int.zero_add _
      have y1 : IntKind.i64.wrap (kk : Int) = (kk : Int) := IntWalk.i64_in _ (by omega)
      have y2 : IntKind.i64.wrap (n2 : Int) = (n2 : Int) := IntWalk.i64_in _ (by omega)
      have y4 : IntKind.i64.wrap (n4 : Int) = (n4 : Int) := IntWalk.i64_in _ (by omega)
      have y6 : IntKind.i64.wrap (n6 : Int) = (n6 : Int) := IntWalk.i64_in _ (by omega)
      have q2 : IntKind.i64.wrap (r2 : Int) = (r2 : Int) := IntWalk.i64_in _ (by omega)
      have q4 : IntKind.i64.wrap (r4 : Int) = (r4 : Int) := IntWalk.i64_in _ (by omega)
      have q6 : IntKind.i64.wrap (r6 : Int) = (r6 : Int) := IntWalk.i64_in _ (by omega)
      have p2 : IntKind.i64.wrap (s2 : Int) = (s2 : Int) := IntWalk.i64_in _ (by omega)
      have p4 : IntKind.i64.wrap (s4 : Int) = (s4 : Int) := IntWalk.i64_in _ (by omega)
      have p6 : IntKind.i64.wrap (s6 : Int) = (s6 : Int) := IntWalk.i64_in _ (by omega)
      have j0 : ¬ (c2 = kk) := by omega
      have j2 : ¬ (c2 = s2) := by omega
      have j4 : ¬ (c2 = s4) := by omega
      have j6 : ¬ (c2 = s6) := by omega
      have h0 : kk ≤ p := by omega
      have h2 : s2 ≤ p := by omega
      have h4 : s4 ≤ p := by omega
      have h6 : s6 ≤ p := by omega
      clear hq l0 l1 l2 l3 hst hfl hcl hkl hB hE hbel hq0 g0 g1 g2 g3 hpp
      go_wp2_with fail
      refine QTl.region 44 (by kernel_rfl) (by kernel_rfl) ?_
      simp only [List.take_succ_cons, List.take_zero, List.drop_succ_cons, List.drop_zero]
      repeat (refine wpQuiet_step (fun K hK => ?_); go_simp; first | (refine hK _ ?_; clear hK K) | (apply Exists.intro; refine ⟨fun _ => ?_, hK _ ?_⟩; ((go_at_call 27; first | (with_reducible exact quiet_drew (HC0.out _)) | (with_reducible exact quiet_drew (HC1.out _)) | (with_reducible exact quiet_drew (HC2.out _)) | (with_reducible exact quiet_drew (HC3.out _)))); clear hK K))
      refine wpQuiet_nil ?_
      intro mm X2 hX2
      have hB2 : Blk gb 112 cs X2 := by rw [← hX2]; exact HS.out.2.2.2.2.2.1
      have hE2 : Blk eb 110 [.slice (some ⟨gb, 0, none⟩) m m] X2 := by rw [← hX2]; exact HS.out.2.2.2.2.2.2.1
      have hb2 : Below w.heap.size w X2 := by rw [← hX2]; exact below_draws HS.out.2.2.2.2.2.2.2 _
      have e0 := hB2.cell HS.out.2.1
      have e1 := hB2.cell HS.out.2.2.1
      have e2 := hB2.cell HS.out.2.2.2.1
      have e3 := hB2.cell HS.out.2.2.2.2.1
      have zf := hB2.frozen
      have HZ := Lib.hid (And.intro ((((hB2.set_ (k * 4) (.int .u16 xe)).set_ (k * 4 + 1) (.int .u16 xs)).set_ (k * 4 + 2) (.int .u16 xd)).set_ (k * 4 + 3) (.int .u16 xo)) (And.intro ((((hE2.other (i := k * 4) (v := .int .u16 xe) hne.symm).other (i := k * 4 + 1) (v := .int .u16 xs) hne.symm).other (i := k * 4 + 2) (v := .int .u16 xd) hne.symm).other (i := k * 4 + 3) (v := .int .u16 xo) hne.symm) ((((hb2.setCell (p := ⟨gb, k * 4, none⟩) hgw (.int .u16 xe)).setCell (p := ⟨gb, k * 4 + 1, none⟩) hgw (.int .u16 xs)).setCell (p := ⟨gb, k * 4 + 2, none⟩) hgw (.int .u16 xd)).setCell (p := ⟨gb, k * 4 + 3, none⟩) hgw (.int .u16 xo))))
      clear hX2 hB2 hE2 hb2 v0
      go_wp2_with fail
      go_roundw
      case rel => exact ⟨k + 1, _, by go_num, hlt, HZ.out.1, HS.out.1, HZ.out.2.1, HZ.out.2.2⟩
      case measure => simp [intOf]; omega
    · obtain rfl : k = m := by omega
      have hFV := HF.out.below hbel
      have x3 := hFV.off
      have x4 := hFV.len
      have x3' := keep_new (o := .cells #[.int .u32 (ib : Int)] 22) x3
      have x4' := keep_new (o := .cells #[.int .u32 (ib : Int)] 22) x4
      have d1 := bel_made V #[.int .u32 (ib : Int)] 22
      have d2 := bel_made (V.alloc (.cells #[.int .u32 (ib : Int)] 22)) #[.int .u32 (G2 : Int)] 22
      have b1 := Blk.new_ V #[.int .u32 (ib : Int)] 22
      have b2 := Blk.new_ (V.alloc (.cells #[.int .u32 (ib : Int)] 22)) #[.int .u32 (G2 : Int)] 22
      have HS := Lib.hid (And.intro ((hB.keep d1).keep d2) (And.intro hfl (And.intro ((hE.keep d1).keep d2) (And.intro ((hbel.alloc hbel.size (.cells #[.int .u32 (ib : Int)] 22)).alloc (by have := hbel.size; simp; omega) (.cells #[.int .u32 (G2 : Int)] 22)) (And.intro (b1.keep d2) b2)))))
      clear hB hfl hE hbel hFV d1 d2 b1 b2
      go_wp2
      exact bodyPost_ret (v := .tuple #[.slice (some ⟨g, off + 14, none⟩) p c2, .func (Fn.func 28) #[] #[.pointer (some ⟨eb, 0, none⟩), .pointer (some ⟨V.heap.size + 1, 0, none⟩), .pointer (some ⟨V.heap.size, 0, none⟩)], .nilIface]) (by simp [results, Tryd.results21, go_sem]) rfl ⟨_, eb, V.heap.size + 1, V.heap.size, _, _, rfl, HS.out.2.2.1.cell (i := 0) rfl, fun _ => ⟨gb, rfl, by have := HS.out.2.1; rw [HP.out.2.1] at this; exact this.at_ HS.out.1⟩, by rw [← HP.out.2.2.2.1]; have := HS.out.2.2.2.2.2.cell (i := 0) rfl; simpa using this, HS.out.2.2.2.2.1.cell (i := 0) rfl, HS.out.2.2.2.1⟩
end Go.Proofs.YthcdolgmifkfdaaDoor.CmpR
