/- Contract of the reading of a table of letters: format 12. -/
import Derived.Test.YthcdolgmifkfdaaDoorCmpC
import Derived.Test.YthcdolgmifkfdaaDoorVewZ
import Derived.Test.YthcdolgmifkfdaaDoorFourB
import Derived.Test.YthcdolgmifkfdaaDoorQTl
import Derived.Maps.AppendAt
namespace Go.Proofs.YthcdolgmifkfdaaDoor.CmpM
open Go.ChangeShapes Go.WideShapes Go.ChangeAt Go.RowKit
open Lst Mem RowG SpecB GlyM CadL FourB View VewZ CmpC
set_option linter.unusedSimpArgs false
set_option linter.unusedVariables false
/-- a font of nothing but a table's bytes -/
structure Fc (fb g n c : Nat) (w : World) : Prop where
  src : w.cell? ⟨fb, 0, none⟩ = some (.slice (some ⟨g, 0, none⟩) n c)
  off : w.cell? ⟨fb, 3, none⟩ = some (.int .u32 0)
  len : w.cell? ⟨fb, 4, none⟩ = some (.int .u32 n)
theorem Fc.below {fb g n c : Nat} {w w' : World} (h : Fc fb g n c w) (hb : Below w.heap.size w w') : Fc fb g n c w' :=
  have hl := World.block_lt_of_cell? w _ h.src
  ⟨(hb.cell (p := ⟨fb, 0, none⟩) hl).trans h.src, (hb.cell (p := ⟨fb, 3, none⟩) hl).trans h.off, (hb.cell (p := ⟨fb, 4, none⟩) hl).trans h.len⟩
theorem at_mid {w : World} {g o : Nat} {xs ys zs : List Int} (h : At w g o (vals .u8 (xs ++ ys ++ zs))) : At w g (o + xs.length) (vals .u8 ys) := fun j u hu => by
  have hj : j < ys.length := by
    rcases Nat.lt_or_ge j ys.length with h | h
    · exact h
    · rw [vals_at, List.getElem?_eq_none h] at hu; cases hu
  have := h (xs.length + j) u (by rw [vals_at, List.append_assoc, List.getElem?_append_right (by omega), Nat.add_sub_cancel_left, List.getElem?_append_left hj]; rw [vals_at] at hu; exact hu)
  rw [Nat.add_assoc]
  exact this
/-- one of numbers of four bytes -/
theorem u32L (g q i n c : Nat) (L : List Int) (w : World) (h : At w g q (vals .u8 (fours L))) (hi : i < L.length) (hb : 0 ≤ L.getD i 0 ∧ L.getD i 0 < 4294967296) (hn : 4 ≤ n) :
    Calls Tryd.prog 31 #[.slice (some ⟨g, q + 4 * i, none⟩) n c] w fun e w' => e = .returned (.int .u32 (L.getD i 0)) ∧ w.drew = w' := by
  obtain ⟨x, hx⟩ : ∃ x, x = L.getD i 0 := ⟨_, rfl⟩
  have hcell : ∀ j y, (four x)[j]? = some y → j < 4 → w.cell? ⟨g, q + 4 * i + j, none⟩ = some (.int .u8 y) := fun j y hy hj => by
    have := h (4 * i + j) (.int .u8 y) (by rw [vals_at, fours_at L i j hi hj, ← hx, hy]; rfl)
    rw [← Nat.add_assoc] at this
    exact this
  have := u32_any g (q + 4 * i) n c _ _ _ _ w hn (hi_bd (x / 65536)) (lo_bd (x / 65536)) (hi_bd x) (lo_bd x) (hcell 0 _ rfl (by decide)) (hcell 1 _ rfl (by decide)) (hcell 2 _ rfl (by decide)) (hcell 3 _ rfl (by decide))
  rw [← hx] at hb
  rw [four_val x hb.1 hb.2] at this
  rw [← hx]
  exact this
def tri (p : Pr) : List Int := [p.1, p.1, p.2]
def L12 (ps : List Pr) : List Int := [16 + 12 * (ps.length : Int), 0, ps.length] ++ ps.flatMap tri
def tab12 (ps : List Pr) : List Int := words [12, 0] ++ fours (L12 ps)
theorem tri_len (ps : List Pr) : (ps.flatMap tri).length = 3 * ps.length := by
  induction ps with
  | nil => rfl
  | cons p ps ih => rw [List.flatMap_cons, List.length_append, ih, List.length_cons, show (tri p).length = 3 from rfl]; omega
theorem L12_len (ps : List Pr) : (L12 ps).length = 3 + 3 * ps.length := by rw [L12, List.length_append, tri_len]; rfl
theorem tab12_len (ps : List Pr) : (tab12 ps).length = 16 + 12 * ps.length := by rw [tab12, List.length_append, words_len, fours_len, L12_len]; simp; try omega
theorem tri_get : ∀ (ps : List Pr) (k j : Nat), k < ps.length → j < 3 → (ps.flatMap tri).getD (3 * k + j) 0 = (tri (ps.getD k (0, 0))).getD j 0
  | [], k, j, h, _ => absurd h (by simp)
  | p :: ps, 0, j, _, hj => by
    rw [List.flatMap_cons, Nat.mul_zero, Nat.zero_add, List.getD_eq_getElem?_getD, List.getElem?_append_left (by simp [tri]; omega), ← List.getD_eq_getElem?_getD]
    rfl
  | p :: ps, k + 1, j, h, hj => by
    rw [List.flatMap_cons, List.getD_eq_getElem?_getD, List.getElem?_append_right (by simp [tri]; omega), ← List.getD_eq_getElem?_getD, show 3 * (k + 1) + j - (tri p).length = 3 * k + j by simp [tri]; omega]
    rw [tri_get ps k j (by simpa using h) hj]
    rfl
theorem L12_get (ps : List Pr) (k j : Nat) (h : k < ps.length) (hj : j < 3) : (L12 ps).getD (3 + 3 * k + j) 0 = (tri (ps.getD k (0, 0))).getD j 0 := by
  rw [L12, List.getD_eq_getElem?_getD, List.getElem?_append_right (by simp; omega), ← List.getD_eq_getElem?_getD, show 3 + 3 * k + j - ([16 + 12 * (ps.length : Int), 0, (ps.length : Int)]).length = 3 * k + j by simp; omega]
  exact tri_get ps k j h hj
theorem einfo : (Tryd.prog.info? 140).map (fun i => (i.zero, i.size, i.bytes)) = some (some (.agg #[.int .u32 0, .int .u32 0, .int .u32 0]), 3, 12) := by kernel_rfl
theorem quiet_same {f : FuncId} {args : Array Value} {w : World} {n : Nat} {v : Value} (h : Calls Tryd.prog f args (w.drewN n) fun e w' => e = .returned v ∧ w.drewN n = w') : Calls Tryd.prog f args (w.drewN n) fun e w'' => e = .returned v ∧ ∃ m, w'' = w.drewN m :=
  h.mono fun _ _ ⟨he, hm⟩ => ⟨he, n, hm.symm⟩
theorem quiet_drew {f : FuncId} {args : Array Value} {w : World} {n : Nat} {v : Value} (h : Calls Tryd.prog f args (w.drewN n) fun e w' => e = .returned v ∧ (w.drewN n).drew = w') : Calls Tryd.prog f args (w.drewN n) fun e w'' => e = .returned v ∧ ∃ m, w'' = w.drewN m :=
  h.mono fun _ _ ⟨he, hm⟩ => ⟨he, n + 1, by rw [← hm]; rfl⟩
theorem quiet_more {f : FuncId} {args : Array Value} {w : World} {a n : Nat} {v : Value} (h : Calls Tryd.prog f args (w.drewN (a + n)) fun e w' => e = .returned v ∧ w.drewN (a + n) = w') : Calls Tryd.prog f args (w.drewN (a + n)) fun e w'' => e = .returned v ∧ ∃ m, w'' = (w.drewN a).drewN m :=
  h.mono fun _ _ ⟨he, hm⟩ => ⟨he, n, by rw [← hm, World.drewN_drewN]⟩
theorem Fc.draws {fb g n c : Nat} {w : World} (h : Fc fb g n c w) (k : Nat) : Fc fb g n c (w.drewN k) := ⟨h.src, h.off, h.len⟩
theorem at_draws {w : World} {g o : Nat} {xs : List Value} (h : At w g o xs) (k : Nat) : At (w.drewN k) g o xs := h
/-- .. wherever it is spelt -/
theorem u32G {g q a i n c : Nat} {L : List Int} {x : Int} {w : World} (h : At w g q (vals .u8 (fours L))) (ha : a = q + 4 * i) (hi : i < L.length) (hx : L.getD i 0 = x) (hb : 0 ≤ x ∧ x < 4294967296) (hn : 4 ≤ n) :
    Calls Tryd.prog 31 #[.slice (some ⟨g, a, none⟩) n c] w fun e w' => e = .returned (.int .u32 x) ∧ w.drew = w' := by
  subst ha hx
  exact u32L g q i n c L w h hi hb hn
/-- a row of structs of three cells, filled up to k -/
def Fill {α : Type} (f : α → List Value) (d : α) (l : List α) (k : Nat) (cs : List Value) : Prop := cs.length = 3 * l.length ∧ ∀ i j u, i < k → (f (l.getD i d))[j]? = some u → cs[i * 3 + j]? = some u
theorem Fill.step {α : Type} {f : α → List Value} {d : α} {l : List α} {k : Nat} {cs : List Value} {a b c : Value} (h : Fill f d l k cs) (hk : k < l.length) (hf : f (l.getD k d) = [a, b, c]) (hlen : ∀ x, (f x).length = 3) : Fill f d l (k + 1) (((cs.set (k * 3) a).set (k * 3 + 1) b).set (k * 3 + 2) c) := by
  obtain ⟨h1, h2⟩ := h
  refine ⟨by simp [h1], fun i j u hi hu => ?_⟩
  have hj : j < 3 := by rw [← hlen (l.getD i d)]; exact (List.getElem?_eq_some_iff.1 hu).1
  rcases Nat.eq_or_lt_of_le (Nat.le_of_lt_succ hi) with rfl | hi
  · rw [hf] at hu
    match j, hj with
    | 0, _ => simp at hu; subst hu; rw [List.getElem?_set_ne (by omega), List.getElem?_set_ne (by omega), Nat.add_zero, List.getElem?_set_self (by omega)]
    | 1, _ => simp at hu; subst hu; rw [List.getElem?_set_ne (by omega), List.getElem?_set_self (by simp; omega)]
    | 2, _ => simp at hu; subst hu; rw [List.getElem?_set_self (by simp; omega)]
  · rw [List.getElem?_set_ne (by omega), List.getElem?_set_ne (by omega), List.getElem?_set_ne (by omega)]
    exact h2 i j u hi hu
theorem Fill.at_ {α : Type} {f : α → List Value} {d : α} {l : List α} {cs : List Value} {w : World} {g : Nat} {t : TypeId} (h : Fill f d l l.length cs) (hb : Blk g t cs w) (hlen : ∀ x, (f x).length = 3) : At w g 0 (l.flatMap f) := fun q u hu => by
  have hq : q < (l.flatMap f).length := (List.getElem?_eq_some_iff.1 hu).1
  have hfl : ∀ (l : List α), (l.flatMap f).length = 3 * l.length := fun l => by
    induction l with
    | nil => rfl
    | cons x l ih => rw [List.flatMap_cons, List.length_append, ih, hlen, List.length_cons]; omega
  rw [hfl] at hq
  have hi : q / 3 < l.length := by omega
  have e := flat_at f 3 hlen d l (q / 3) (q % 3) hi (by omega)
  rw [show 3 * (q / 3) + q % 3 = q by omega] at e
  rw [e] at hu
  have := h.2 _ _ u hi hu
  rw [show q / 3 * 3 + q % 3 = q by omega] at this
  rw [Nat.zero_add]
  exact hb.cell this
set_option maxHeartbeats 4000000 in
set_option maxRecDepth 4000 in
theorem mk12 (fb g n c off len : Nat) (ps : List Pr) (w : World) (hF : Fc fb g n c w) (hA : At w g off (vals .u8 (tab12 ps))) (hn : n = off + (tab12 ps).length) (hnc : n ≤ c) (ho : off ≤ 100) (hlen : len ≤ 60000) (h40 : ps.length ≤ 40) (hps : ∀ p ∈ ps, (0 ≤ p.1 ∧ p.1 ≤ 1114111) ∧ (1 ≤ p.2 ∧ p.2 ≤ 9)) :
    Calls Tryd.prog 23 #[.pointer (some ⟨fb, 0, none⟩), .slice none 0 0, .int .u32 (off : Int), .int .u32 (len : Int)] w
      fun e w' => ∃ buf eb A c', e = .returned (.tuple #[buf, .func (Fn.func 32) #[] #[.pointer (some ⟨eb, 0, none⟩)], .nilIface]) ∧ w'.cell? ⟨eb, 0, none⟩ = some (.slice A ps.length c') ∧ (0 < ps.length → ∃ g', A = some ⟨g', 0, none⟩ ∧ At w' g' 0 (ps.flatMap gc)) ∧ Below w.heap.size w w' := by
  have hl := tab12_len ps
  obtain ⟨m, hm⟩ : ∃ m, m = ps.length := ⟨_, rfl⟩
  rw [← hm] at hl h40 ⊢
  rw [hl] at hn
  have hA1 : At w g (off + 4) (vals .u8 (fours (L12 ps))) := by
    have := at_mid (xs := words [12, 0]) (ys := fours (L12 ps)) (zs := []) (by rw [List.append_nil]; exact hA)
    rw [words_len] at this
    exact this
  have hLl : (L12 ps).length = 3 + 3 * m := by rw [L12_len, hm]
  obtain ⟨q, hq⟩ : ∃ q : Nat, q = 16 + 12 * m := ⟨_, rfl⟩
  obtain ⟨p, hp⟩ : ∃ p : Nat, p = 12 * m := ⟨_, rfl⟩
  have L0 : (L12 ps).getD 0 0 = (q : Int) := by rw [hq, hm]; simp [L12]
  have L2 : (L12 ps).getD 2 0 = (m : Int) := by rw [hm]; simp [L12]
  have HV := Lib.hid (fun k => view_all fb g n c off 16 (.slice none 0 0) (w.drewN k) (hF.draws k).src (by omega) hnc (by omega))
  have HU0 := Lib.hid (fun k => u32G (a := off + 4) (n := 12) (c := c - off - 4) (at_draws hA1 k) (by omega) (i := 0) (by omega) L0 (by omega) (by omega))
  have HU2 := Lib.hid (fun k => u32G (a := off + 12) (n := 4) (c := c - off - 12) (at_draws hA1 k) (by omega) (i := 2) (by omega) L2 (by omega) (by omega))
  obtain ⟨va, hva⟩ : ∃ va, va = vat (off + 16) p c := ⟨_, rfl⟩
  have HV2 := Lib.hid (fun (W : World) (h : Fc fb g n c W) k => view_all fb g n c (off + 16) p (.slice (some ⟨g, off, none⟩) 16 (c - off)) (W.drewN k) (h.draws k).src (by omega) hnc (by omega))
  rw [← hva] at HV2
  obtain ⟨cp, hcp⟩ : ∃ cp, cp = c - (off + 16) := ⟨_, rfl⟩
  rw [← hcp] at HV2
  have hcpp : p ≤ cp := by omega
  have HVA := Lib.hid (show 0 < m → va = off + 16 from fun h => by rw [hva, vat, if_neg (by omega)])
  have f3 := hF.off
  have f4 := hF.len
  have t1 : IntKind.u32.wrap ((off : Int) + 16) = (off : Int) + 16 := IntWalk.u32_in _ (by omega)
  have t2 : decide ((off : Int) + 16 > (n : Int)) = false := by simp; omega
  have t2' : ¬ ((n : Int) < (off : Int) + 16) := by omega
  have t3 : IntKind.u32.wrap (0 + (off : Int)) = (off : Int) := by rw [Int.zero_add]; exact IntWalk.u32_in _ (by omega)
  have t3' : IntKind.u32.wrap (off : Int) = (off : Int) := IntWalk.u32_in _ (by omega)
  have t4 : IntKind.i64.wrap (off : Int) = (off : Int) := IntWalk.i64_in _ (by omega)
  have t5 : ¬ ((n : Int) < (off : Int)) := by omega
  have t6 : (n : Int) - (off : Int) = (q : Int) := by omega
  have t7 : IntKind.u32.wrap (q : Int) = (q : Int) := IntWalk.u32_in _ (by omega)
  have t8 : ¬ ((20000 : Int) < (m : Int)) := by omega
  have t9 : (12 : Int) * (m : Int) = (p : Int) := by omega
  have t10 : IntKind.u32.wrap (p : Int) = (p : Int) := IntWalk.u32_in _ (by omega)
  have t11 : (16 : Int) + (p : Int) = (q : Int) := by omega
  have t12 : IntKind.u32.wrap (0 + ((off : Int) + 16)) = (off : Int) + 16 := by rw [Int.zero_add]; exact t1
  have t13 : IntKind.i64.wrap ((off : Int) + 16) = ((off + 16 : Nat) : Int) := by rw [IntWalk.i64_in _ (by omega)]; rfl
  have t14 : IntKind.i64.wrap (p : Int) = (p : Int) := IntWalk.i64_in _ (by omega)
  have t15 : IntKind.u32.wrap ((off : Int) + 16 + (p : Int)) = (off : Int) + 16 + (p : Int) := IntWalk.u32_in _ (by omega)
  have t16 : ¬ (c - off = 4) := by omega
  have t17 : ¬ (c - off = 12) := by omega
  have t18 : (4 : Int) ≤ ((c - off : Nat) : Int) := by omega
  have t19 : (12 : Int) ≤ ((c - off : Nat) : Int) := by omega
  have e0 : vat off 16 c = off := by simp [vat]
  rw [e0] at HV
  have HGL := Lib.hid (World.block_lt_of_cell? w _ (hA1 0 (.int .u8 ((fours (L12 ps)).getD 0 0)) (by rw [vals_at, List.getD_eq_getElem?_getD]; have h4 : 0 < (fours (L12 ps)).length := (by rw [fours_len]; omega); rw [List.getElem?_eq_getElem h4]; rfl)))
  have HF := Lib.hid hF
  have HA := Lib.hid (And.intro hA1 hLl)
  have HP := Lib.hid (And.intro hps hm)
  have HQ := Lib.hid (And.intro hq (And.intro hp hn))
  clear hF hA hA1 hps hm e0 hl hq hp hn hva L0 L2 hLl hcp
  go_enter Tryd.func23, Tryd.ntmps23
  go_wp2_with fail
  go_quiet ((go_at_call 24; exact quiet_same (HV.out _)))
  go_wp2_with fail
  refine (HU0.out _).mono ?_
  rintro e w1 ⟨rfl, rfl⟩
  go_wp2_with fail
  refine (HU2.out _).mono ?_
  rintro e W ⟨rfl, hW⟩
  have hFW : Fc fb g n c W := by rw [← hW]; exact HF.out.draws (nq + 2)
  have hbW : Below w.heap.size w W := by rw [← hW]; exact Below.drew (below_draws (Below.refl _ _) _)
  have x3 := hFW.off
  have x4 := hFW.len
  have HFW := Lib.hid (And.intro hFW hbW)
  have HV3 := Lib.hid (HV2.out W hFW)
  clear hFW hbW hW f3 f4 HV2 HU0 HU2 HV
  go_wp2_with fail
  go_quiet ((go_at_call 24; exact quiet_same (HV3.out _)))
  obtain ⟨i0, hi0, hz0, hz1, hz2⟩ := info_parts einfo
  obtain ⟨X, hX⟩ : ∃ X, X = W.drewN nq := ⟨_, rfl⟩
  have hFX : Below w.heap.size w X := by rw [hX]; exact below_draws HFW.out.2 _
  rw [← hX]
  have HX := Lib.hid hFX
  clear hX hFX x3 x4 HV3
  go_wp2_with (at_make; refine wpList_make_full _ rfl _ _ 138 rfl w.heap.size 140 i0 (.agg #[.int .u32 0, .int .u32 0, .int .u32 0]) 3 Tryd.underlying138 hi0 hz0 hz1 .u32 .u32 _ _ m rfl rfl ?c1 ?c2 ?c3 ?c4 ?c5 ?_)
  case c1 => rfl
  case c2 => rfl
  case c3 => rw [hz2]; omega
  case c4 => unfold maxLen; omega
  case c5 => exact HX.out.size
  intro w1 hown hgrow
  obtain ⟨cs0, hB0, hl0⟩ : ∃ cs, Blk X.heap.size 140 cs w1 ∧ cs.length = 3 * m := by
    rcases hown.2 with ⟨h, _⟩ | ⟨g0, cap, cur, hv, hg0, hh, rest⟩
    · cases h
    · injection hv with hv _ hcp
      injection hv with hv
      injection hv with hv
      subst hv hcp
      refine ⟨cur.toList, by unfold Blk; simpa using hh, ?_⟩
      have := rest.2.2.1
      simp at this ⊢
      omega
  have hb1 : Below w.heap.size w w1 := HX.out.grown hgrow HX.out.size (fun j hj => by cases hj)
  have hgs : w.heap.size ≤ X.heap.size := HX.out.size
  have hXs : X.heap.size < w1.heap.size := hB0.lt
  obtain ⟨gb, hgb⟩ : ∃ gb, gb = X.heap.size := ⟨_, rfl⟩
  obtain ⟨eb, heb⟩ : ∃ eb, eb = w1.heap.size := ⟨_, rfl⟩
  obtain ⟨Y, hY⟩ : ∃ Y, Y = w1.alloc (.cells #[.slice (some ⟨X.heap.size, 0, none⟩) m m] 138) := ⟨_, rfl⟩
  have hBY : Blk gb 140 cs0 Y := by rw [hY, hgb]; exact hB0.keep (bel_made _ _ _)
  have hEY : Blk eb 138 [.slice (some ⟨gb, 0, none⟩) m m] Y := by rw [hY, hgb, heb]; exact Blk.new_ w1 _ _
  have hbY : Below w.heap.size w Y := by rw [hY]; exact hb1.alloc hb1.size _
  have hne : gb ≠ eb := by omega
  have hgw : w.heap.size ≤ gb := by omega
  have HY := Lib.hid (And.intro hBY (And.intro hEY hbY))
  have HL0 := Lib.hid hl0
  have y0 := hEY.cell (i := 0) rfl
  clear hown hgrow hB0 hb1 hgs hXs hBY hEY hbY hl0 HX HFW
  go_wp2_with fail
  rw [← hY, ← hgb, ← heb]
  clear hY hgb heb y0
  go_loopw [110] (fun i wr => ∃ (k : Nat) (cs : List Value), i = .int .i64 k ∧ k ≤ m ∧ Blk gb 140 cs wr ∧ Fill gc (0, 0) ps k cs ∧ Blk eb 138 [.slice (some ⟨gb, 0, none⟩) m m] wr ∧ Below w.heap.size w wr) (fun i _ => m - (intOf i).toNat)
  case atStart => exact ⟨0, cs0, rfl, Nat.zero_le _, HY.out.1, ⟨by rw [HL0.out, HP.out.2], fun i j u h => by omega⟩, HY.out.2.1, HY.out.2.2⟩
  case round =>
    clear HY
    obtain ⟨k, cs, rfl, hk, hB, hfl, hE, hbel⟩ := hrel
    obtain ⟨V, hV⟩ : ∃ V, V = wr := ⟨_, rfl⟩
    subst hV
    by_cases hlt : k < m
    · have hva := HVA.out (by omega)
      subst hva
      have hcl := hfl.1
      rw [← HP.out.2] at hcl
      have hkl : k < ps.length := by rw [← HP.out.2]; exact hlt
      obtain ⟨u0, g0⟩ : ∃ u, cs[k * 3]? = some u := ⟨_, List.getElem?_eq_getElem (by omega)⟩
      obtain ⟨u1, g1⟩ : ∃ u, cs[k * 3 + 1]? = some u := ⟨_, List.getElem?_eq_getElem (by omega)⟩
      obtain ⟨u2, g2⟩ : ∃ u, cs[k * 3 + 2]? = some u := ⟨_, List.getElem?_eq_getElem (by omega)⟩
      have hp := HP.out.1 _ (getD_mem ps k (0, 0) hkl)
      have l0 := L12_get ps k 0 hkl (by omega)
      have l1 := L12_get ps k 1 hkl (by omega)
      have l2 := L12_get ps k 2 hkl (by omega)
      have hst : Fill gc (0, 0) ps (k + 1) (((cs.set (k * 3) (.int .u32 (ps.getD k (0, 0)).1)).set (k * 3 + 1) (.int .u32 (ps.getD k (0, 0)).1)).set (k * 3 + 2) (.int .u32 (ps.getD k (0, 0)).2)) := hfl.step hkl rfl gc_len
      obtain ⟨pr, hpr⟩ : ∃ pr, ps.getD k (0, 0) = pr := ⟨_, rfl⟩
      obtain ⟨x, y⟩ := pr
      rw [hpr] at hp l0 l1 l2 hst
      simp only at hp hst
      have hAV : At V g (off + 4) (vals .u8 (fours (L12 ps))) := by
        have hgl : g < w.heap.size := by
          have := HGL.out
          exact this
        exact fun j u hu => (hbel.cell (p := ⟨g, off + 4 + j, none⟩) hgl).trans (HA.out.1 j u hu)
      obtain ⟨d, hd⟩ : ∃ d : Nat, (12 : Int) * (k : Int) = (d : Int) := ⟨12 * k, by omega⟩
      obtain ⟨d4, hd4⟩ : ∃ e : Nat, (4 : Int) + (d : Int) = (e : Int) := ⟨4 + d, by omega⟩
      obtain ⟨d8, hd8⟩ : ∃ e : Nat, (8 : Int) + (d : Int) = (e : Int) := ⟨8 + d, by omega⟩
      have hpd : d + 12 ≤ p ∧ d4 + 8 ≤ p ∧ d8 + 4 ≤ p := by have := HQ.out; omega
      have HC0 := Lib.hid (fun n => u32G (a := off + 16 + d) (n := p - d) (c := cp - d) (at_draws hAV n) (i := 3 + 3 * k + 0) (by omega) (by rw [HA.out.2]; omega) l0 (by show 0 ≤ x ∧ x < 4294967296; omega) (by have := HQ.out; omega))
      have HC1 := Lib.hid (fun n => u32G (a := off + 16 + d4) (n := p - d4) (c := cp - d4) (at_draws hAV n) (i := 3 + 3 * k + 1) (by omega) (by rw [HA.out.2]; omega) l1 (by show 0 ≤ x ∧ x < 4294967296; omega) (by have := HQ.out; omega))
      have HC2 := Lib.hid (fun n => u32G (a := off + 16 + d8) (n := p - d8) (c := cp - d8) (at_draws hAV n) (i := 3 + 3 * k + 2) (by omega) (by rw [HA.out.2]; omega) l2 (by show 0 ≤ y ∧ y < 4294967296; omega) (by have := HQ.out; omega))
      have v0 := hE.cell (i := 0) rfl
      have HS := Lib.hid (And.intro hst (And.intro g0 (And.intro g1 (And.intro g2 (And.intro hB (And.intro hE hbel))))))
      have hp60 : p ≤ 480 := by have := HQ.out; omega
      have w1 : IntKind.i64.wrap (d : Int) = (d : Int) := IntWalk.i64_in _ (by omega)
      have w2 : IntKind.i64.wrap (d4 : Int) = (d4 : Int) := IntWalk.i64_in _ (by omega)
      have w3 : IntKind.i64.wrap (d8 : Int) = (d8 : Int) := IntWalk.i64_in _ (by omega)
      have s4 : ¬ (cp = d) := by omega
      have s5 : ¬ (cp = d4) := by omega
      have s6 : ¬ (cp = d8) := by omega
      have s7 : d ≤ p := by omega
      have s8 : d4 ≤ p := by omega
      have s9 : d8 ≤ p := by omega
      clear hpd l0 l1 l2 hp hst hfl hcl hkl hAV hB hE hbel hpr g0 g1 g2
      go_wp2_with fail
      refine QTl.region 22 (by kernel_rfl) (by kernel_rfl) ?_
      simp only [List.take_succ_cons, List.take_zero, List.drop_succ_cons, List.drop_zero]
      repeat (refine wpQuiet_step (fun K hK => ?_); go_simp; first | (refine hK _ ?_; clear hK K) | (apply Exists.intro; refine ⟨fun _ => ?_, hK _ ?_⟩; ((go_at_call 31; first | (with_reducible exact quiet_drew (HC0.out _)) | (with_reducible exact quiet_drew (HC1.out _)) | (with_reducible exact quiet_drew (HC2.out _)))); clear hK K))
      refine wpQuiet_nil ?_
      intro mm X2 hX2
      have hB2 : Blk gb 140 cs X2 := by rw [← hX2]; exact HS.out.2.2.2.2.1
      have hE2 : Blk eb 138 [.slice (some ⟨gb, 0, none⟩) m m] X2 := by rw [← hX2]; exact HS.out.2.2.2.2.2.1
      have hb2 : Below w.heap.size w X2 := by rw [← hX2]; exact below_draws HS.out.2.2.2.2.2.2 _
      have z0 := hB2.cell HS.out.2.1
      have z1 := hB2.cell HS.out.2.2.1
      have z2 := hB2.cell HS.out.2.2.2.1
      have zf := hB2.frozen
      have HZ := Lib.hid (And.intro (((hB2.set_ (k * 3) (.int .u32 x)).set_ (k * 3 + 1) (.int .u32 x)).set_ (k * 3 + 2) (.int .u32 y)) (And.intro (((hE2.other (i := k * 3) (v := .int .u32 x) hne.symm).other (i := k * 3 + 1) (v := .int .u32 x) hne.symm).other (i := k * 3 + 2) (v := .int .u32 y) hne.symm) (((hb2.setCell (p := ⟨gb, k * 3, none⟩) hgw (.int .u32 x)).setCell (p := ⟨gb, k * 3 + 1, none⟩) hgw (.int .u32 x)).setCell (p := ⟨gb, k * 3 + 2, none⟩) hgw (.int .u32 y))))
      clear hX2 hB2 hE2 hb2 v0
      go_wp2_with fail
      go_roundw
      case rel => exact ⟨k + 1, _, by go_num, hlt, HZ.out.1, HS.out.1, HZ.out.2.1, HZ.out.2.2⟩
      case measure => simp [intOf]; omega
    · obtain rfl : k = m := by omega
      have HS := Lib.hid (And.intro hB (And.intro hfl (And.intro hE hbel)))
      clear hB hfl hE hbel
      go_wp2
      exact bodyPost_ret (v := .tuple #[.slice (some ⟨g, va, none⟩) p cp, .func (Fn.func 32) #[] #[.pointer (some ⟨eb, 0, none⟩)], .nilIface]) (by simp [results, Tryd.results23, go_sem]) rfl ⟨_, eb, _, _, rfl, HS.out.2.2.1.cell (i := 0) rfl, fun _ => ⟨gb, rfl, by have := HS.out.2.1; rw [HP.out.2] at this; exact this.at_ HS.out.1 gc_len⟩, HS.out.2.2.2⟩
end Go.Proofs.YthcdolgmifkfdaaDoor.CmpM
