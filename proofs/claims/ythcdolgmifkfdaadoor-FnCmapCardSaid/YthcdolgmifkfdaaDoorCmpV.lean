/- Contract of the table of letters of format 0. -/
import Derived.Test.YthcdolgmifkfdaaDoorCmpU
namespace Go.Proofs.YthcdolgmifkfdaaDoor.CmpV
open Go.ChangeShapes Go.WideShapes Go.ChangeAt Go.RowKit
open Lst Mem RowG SpecB SfntB GlyM CadL FourB View AppZ CmpL CmpC CmpM CmpS CmpT CmpU
set_option linter.unusedSimpArgs false
set_option linter.unusedVariables false
theorem at_fresh (w : World) (k : IntKind) (l : List Int) (e : TypeId) : At (w.alloc (.cells (vals k l).toArray e)) w.heap.size 0 (vals k l) := fun j u hu => by
  rw [Nat.zero_add]
  simpa using hu
/-- bytes of the call's own, not nil -/
def Ob (w0 w : World) (v : Value) (l : List Int) : Prop := w.ownsRow w0.heap.size 5 1 v l.length (vals .u8 l) ∧ v ≠ .slice none 0 0 ∧ Below w0.heap.size w0 w
theorem Ob.keep {w0 w w' : World} {v : Value} {l : List Int} (h : Ob w0 w v l) (hb : Below w.heap.size w w') : Ob w0 w' v l := ⟨own_keep h.1 hb, h.2.1, h.2.2.trans (hb.mono h.2.2.size)⟩
theorem Ob.start {w0 w w' : World} {v : Value} {l : List Int} (hb : Below w0.heap.size w0 w) (h : Ob w w' v l) : Ob w0 w' v l := ⟨own_base' h.1 hb.size, h.2.1, hb.trans (h.2.2.mono hb.size)⟩
theorem Ob.rd {w0 w : World} {v : Value} {l : List Int} (h : Ob w0 w v l) : ∃ g c, v = .slice (some ⟨g, 0, none⟩) l.length c ∧ Rd w (some ⟨g, 0, none⟩) l.length c (vals .u8 l) ∧ l.length ≤ c := by
  obtain ⟨g, c, rfl, hA, hc, _⟩ := own_open h.1 h.2.1
  have := Rd.of_At (c := c) hA
  rw [vals_len] at this
  exact ⟨g, c, rfl, this, hc⟩
theorem words_new (ls : List Int) (n : Nat) (W : World) (hn : n = ls.length) (hb : ∀ x ∈ ls, -9223372036854775808 ≤ x ∧ x ≤ 9223372036854775807) (hl : n ≤ 1000000) :
    Calls Tryd.prog 11 #[.slice (some ⟨W.heap.size, 0, none⟩) n n] (W.alloc (.cells (vals .i64 ls).toArray 3)) fun e w' => ∃ v, e = .returned v ∧ Ob W w' v (words ls) := by
  subst hn
  refine (words_any W.heap.size 0 ls.length ls (W.alloc (.cells (vals .i64 ls).toArray 3)) (by simp) (at_fresh W .i64 ls _) hb (by omega)).mono ?_
  rintro e w' ⟨v, rfl, ho, hn, hd⟩
  exact ⟨v, rfl, own_base' ho (by simp), hn, (bel_made W _ _).trans (hd.mono (by simp))⟩
section
variable {ops : Array Oper} {rest : List Oper} {o : Oper} {a : Act} {Q : Exit → Act → World → Prop} {w w0 : World}
/-- append of bytes -/
theorem app_b (hgd : o.guard = none) (s x : Operand) (ho : o.op = .call { callee := .builtin .append, args := #[s, x], argTypes := #[25, 25] })
    (v : Value) (l : List Int) (hs : a.eval s = v) (hO : Ob w0 w v l) (A : Option Addr) (n c : Nat) (xs : List Int) (hx : a.eval x = .slice A n c) (hr : Rd w A n c (vals .u8 xs)) (hsz : l.length + n ≤ 1000000)
    (h : ∀ v' w', Ob w0 w' v' (l ++ xs) → wpList Tryd.prog ops Q rest (a.put o.dst v') w') : wpList Tryd.prog ops Q (o :: rest) a w := by
  obtain ⟨i0, hi0, hz0, hz1, hz2⟩ := info_parts u8info
  refine app_any hgd s x 25 ho w0.heap.size 5 i0 (.int .u8 0) 1 Tryd.underlying25 hi0 hz0 hz1 hz2 rfl v l.length (vals .u8 l) hs hO.1 A n c (vals .u8 xs) hx hr (vals_one _ _) (by unfold maxLen; omega) (by omega) hO.2.2.size ?_
  intro v' w' h1 h2 h3
  have hl : n = xs.length := by have := hr.1; rw [vals_len] at this; exact this.symm
  refine h v' w' ⟨by rw [List.length_append, vals_app, ← hl]; exact h1, fun e => hO.2.1 (h3.1 e).1, hO.2.2.grown h2 hO.2.2.size (fun g hg => own_ge hO.1 hg)⟩
/-- append of other bytes of the call's own -/
theorem app_bb {w1 : World} (hgd : o.guard = none) (s x : Operand) (ho : o.op = .call { callee := .builtin .append, args := #[s, x], argTypes := #[25, 25] })
    (v v2 : Value) (l xs : List Int) (hs : a.eval s = v) (hx : a.eval x = v2) (hO : Ob w0 w v l) (hO2 : Ob w1 w v2 xs) (hsz : l.length + xs.length ≤ 1000000)
    (h : ∀ v' w', Ob w0 w' v' (l ++ xs) → wpList Tryd.prog ops Q rest (a.put o.dst v') w') : wpList Tryd.prog ops Q (o :: rest) a w := by
  obtain ⟨g, c, rfl, hR, _⟩ := hO2.rd
  exact app_b hgd s x ho v l hs hO _ _ _ xs hx hR hsz h
/-- append of zeros -/
theorem app_z (hgd : o.guard = none) (s x : Operand) (ho : o.op = .call { callee := .builtin .append, args := #[s, x], argTypes := #[25, 3] })
    (v : Value) (l : List Int) (hs : a.eval s = v) (hO : Ob w0 w v l) (m : Nat) (M : Int) (hx : a.eval x = .int .i64 M) (hM : M = (m : Int)) (hsz : l.length + m ≤ 1000000)
    (h : ∀ v' w', Ob w0 w' v' (l ++ List.replicate m 0) → wpList Tryd.prog ops Q rest (a.put o.dst v') w') : wpList Tryd.prog ops Q (o :: rest) a w := by
  obtain ⟨i0, hi0, hz0, hz1, hz2⟩ := info_parts u8info
  obtain ⟨g, c, rfl, hA, hc⟩ := hO.rd
  refine wpList_app_zeros w hgd s x 25 3 ho w0.heap.size 5 i0 (.int .u8 0) 1 Tryd.underlying25 Tryd.underlying3 hi0 hz0 hz1 hz2 rfl rfl g l.length c (vals .u8 l) hs hO.1 m M hx hM (by unfold maxLen; omega) (by omega) hO.2.2.size (by omega) ?_
  intro v' w' h1 h2 h3
  refine h v' w' ⟨by rw [List.length_append, vals_app, List.length_replicate]; simpa [vals] using h1, h3, hO.2.2.grown h2 hO.2.2.size (fun g hg => own_ge hO.1 hg)⟩
end
/-- a list of bytes with letters' glyphs set -/
def fill (b : List Int) (ps : List Pr) : List Int := ps.foldl (fun b p => b.set p.1.toNat p.2) b
theorem fill_len (b : List Int) (ps : List Pr) : (fill b ps).length = b.length := by
  induction ps generalizing b with
  | nil => rfl
  | cons p ps ih => rw [fill, List.foldl_cons, ← fill, ih, List.length_set]
theorem fill_snoc (b : List Int) (ps : List Pr) (p : Pr) : fill b (ps ++ [p]) = (fill b ps).set p.1.toNat p.2 := by simp [fill]
theorem take_snocp (c : List Pr) (k : Nat) (h : k < c.length) : c.take (k + 1) = c.take k ++ [c.getD k (0, 0)] := by
  rw [List.take_succ_eq_append_getElem h, List.getD_eq_getElem?_getD, List.getElem?_eq_getElem h]
  rfl
def tab0 (ps : List Pr) : List Int := words [0, 262, 0] ++ fill (List.replicate 256 0) ps
set_option maxHeartbeats 2000000 in
set_option maxRecDepth 4000 in
theorem tb0 (cs : List Value) (A : Option Addr) (n cp : Nat) (ps : List Pr) (w : World) (hc5 : cs[5]? = some (.slice A n cp)) (hc6 : cs[6]? = some (.int .i64 0)) (hn : n = ps.length) (h40 : n ≤ 40) (hat : PrAt w A ps)
    (hps : ∀ p ∈ ps, (0 ≤ p.1 ∧ p.1 < 128) ∧ (0 ≤ p.2 ∧ p.2 ≤ 255)) :
    Calls Tryd.prog 6 #[.agg cs.toArray] w fun e w' => ∃ v, e = .returned v ∧ Ob w w' v (tab0 ps) := by
  have HN := Lib.hid hn
  have HA := Lib.hid hat
  have HC := Lib.hid (And.intro hc5 hc6)
  have HP := Lib.hid hps
  clear hat hn hc5 hc6 hps
  go_enter Tryd.func6, Tryd.ntmps6
  go_wp2_with (first | (refine box_any rfl rfl rfl ?_; intro Z hZ; have hbZ : Blk w.heap.size 36 cs Z := (by rw [← hZ]; exact Blk.new_ w cs.toArray 36); have c5 := hbZ.cell HC.out.1; have c6 := hbZ.cell HC.out.2; have hdZ : Below w.heap.size w Z := (by rw [← hZ]; exact bel_made w cs.toArray 36)) | fail)
  have HD := Lib.hid (And.intro hdZ hbZ)
  clear hZ hbZ hdZ c5 c6
  refine (words_new [0, 262, 0] 3 Z rfl (by simp) (by omega)).mono ?_
  rintro e W1 ⟨v1, rfl, hO1⟩
  have HO := Lib.hid hO1
  clear hO1
  go_wp2_with ((with_reducible refine Gate.append ?_); refine app_z rfl _ _ rfl _ _ rfl HO.out 256 _ rfl rfl (by decide) ?_; intro v2 W2 hO2; have c5 := below_cell (HD.out.2.cell HC.out.1) hO2.2.2; have HO2 := Lib.hid hO2; clear hO2)
  obtain ⟨g, c, rfl, hR, hc⟩ := HO2.out.rd
  have hl : (words [0, 262, 0] ++ List.replicate 256 (0 : Int)).length = 262 := by decide
  have ho := HO2.out.1
  rw [hl] at ho hc
  rw [hl]
  obtain ⟨hd, hhd⟩ : ∃ h, h = words [0, 262, 0] := ⟨_, rfl⟩
  have h6 : hd.length = 6 := by rw [hhd]; rfl
  rw [← hhd] at ho
  have HS := Lib.hid (And.intro ho (And.intro HO2.out.2.2 (And.intro hhd h6)))
  clear ho hR hl c5 hhd h6
  go_loopw [39, 5] (fun i _ wr => ∃ k : Nat, i = .int .i64 k ∧ k ≤ n ∧ wr.ownsRow Z.heap.size 5 1 (.slice (some ⟨g, 0, none⟩) 262 c) 262 (vals .u8 (hd ++ fill (List.replicate 256 0) (ps.take k))) ∧ Below Z.heap.size Z wr) (fun i _ _ => n - (intOf i).toNat)
  case atStart => exact ⟨0, rfl, Nat.zero_le _, HS.out.1, HS.out.2.1⟩
  case round =>
    obtain ⟨k, rfl, hk, hown, hbel⟩ := hrel
    obtain ⟨W, hW⟩ : ∃ W, W = wr := ⟨_, rfl⟩
    subst hW
    by_cases hlt : k < n
    · have hlp : k < ps.length := by rw [← HN.out]; exact hlt
      obtain ⟨gp, rfl, a0, a1⟩ := ((HA.out.below HD.out.1).below hbel) k hlp
      have hmem : ps.getD k (0, 0) ∈ ps := by
        rw [List.getD_eq_getElem?_getD, List.getElem?_eq_getElem hlp]
        exact List.getElem_mem _
      obtain ⟨hx, hy⟩ := HP.out _ hmem
      obtain ⟨x, hxe⟩ : ∃ x : Nat, (ps.getD k (0, 0)).1 = (x : Int) := ⟨(ps.getD k (0, 0)).1.toNat, by omega⟩
      obtain ⟨y, hye⟩ : ∃ y, (ps.getD k (0, 0)).2 = y := ⟨_, rfl⟩
      rw [hxe] at a0 hx
      rw [hye] at a1 hy
      have HX := Lib.hid (And.intro hxe (And.intro hye (And.intro hown hbel)))
      clear hown hbel hxe hye hmem
      go_upto_region 7 with (fail)
      obtain ⟨Y, hY⟩ : ∃ Y, Y = W.alloc (.cells #[.int .i64 (x : Int), .int .i64 y] 41) := ⟨_, rfl⟩
      have hdY : Below W.heap.size W Y := by rw [hY]; exact bel_made W _ _
      have b0 : Y.cell? ⟨W.heap.size, 0, none⟩ = some (.int .i64 (x : Int)) := by rw [hY]; simp
      have b1 : Y.cell? ⟨W.heap.size, 1, none⟩ = some (.int .i64 y) := by rw [hY]; simp
      have hoY := own_keep HX.out.2.2.1 hdY
      obtain ⟨wb, hwb⟩ : ∃ b, b = W.heap.size := ⟨_, rfl⟩
      rw [← hY]
      rw [← hwb] at b0 b1 ⊢
      obtain ⟨d, hd6⟩ : ∃ d, d = 6 + x := ⟨_, rfl⟩
      obtain ⟨L, hL⟩ : ∃ L, L = hd ++ fill (List.replicate 256 0) (ps.take k) := ⟨_, rfl⟩
      have hLl : L.length = 262 := by
        rw [hL, List.length_append, fill_len, List.length_replicate, HS.out.2.2.2]
      rw [← hL] at hoY
      have w1 : IntKind.i64.wrap (6 + (x : Int)) = (d : Int) := by rw [hd6]; exact IntWalk.i64_in _ (by omega)
      have w2 : IntKind.u8.wrap y = y := IntWalk.u8_in _ (by omega)
      have hd262 : d < 262 := by omega
      have cd := hoY.cellAt d (by omega)
      obtain ⟨z, hz⟩ : ∃ z, (vals .u8 L)[d]? = some z := ⟨_, List.getElem?_eq_getElem (by rw [vals_len]; omega)⟩
      rw [hz] at cd
      have fd := hoY.frozenAt d
      have hst := hoY.stored d (.int .u8 y)
      have e3 : (vals .u8 L).set d (.int .u8 y) = vals .u8 (hd ++ fill (List.replicate 256 0) (ps.take (k + 1))) := by
        rw [take_snocp ps k hlp, fill_snoc, HX.out.1, HX.out.2.1, vals, ← List.map_set, hL, hd6, List.set_append_right (6 + x) _ (by rw [HS.out.2.2.2]; omega), HS.out.2.2.2, show 6 + x - 6 = x by omega]
        rfl
      rw [e3] at hst
      have HY := Lib.hid (And.intro hst.1 ((HX.out.2.2.2.trans (hdY.mono HX.out.2.2.2.size)).grown hst.2 (by have := HX.out.2.2.2.size; have := hdY.size; omega) (fun b hb => by cases hb; exact own_ge hoY rfl)))
      clear hst hoY hdY hY hwb hL hLl hd6 hz e3
      go_wp2_with fail
      exact ⟨⟨k + 1, by go_num, hlt, HY.out.1, HY.out.2⟩, by simp [intOf]; omega⟩
    · obtain rfl : k = n := by omega
      have HX := Lib.hid (And.intro hown hbel)
      clear hown hbel
      go_wp2_with fail
      go_ret
      have h1 := HX.out.1
      rw [HN.out, List.take_length, HS.out.2.2.1] at h1
      have hl : (tab0 ps).length = 262 := by rw [tab0, List.length_append, fill_len]; decide
      exact ⟨_, rfl, by rw [hl]; exact own_base' h1 HD.out.1.size, by simp, HD.out.1.trans (HX.out.2.mono HD.out.1.size)⟩
end Go.Proofs.YthcdolgmifkfdaaDoor.CmpV
