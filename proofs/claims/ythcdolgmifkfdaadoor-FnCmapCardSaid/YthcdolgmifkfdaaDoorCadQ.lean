/- The making of a font: its letters are laid, the least ahead. -/
import Derived.Test.YthcdolgmifkfdaaDoorCadJ
import Derived.Test.YthcdolgmifkfdaaDoorCadP
import Derived.Test.YthcdolgmifkfdaaDoorGate
namespace Go.Proofs.YthcdolgmifkfdaaDoor.CadQ
open Go.ChangeShapes Go.WideShapes Go.ChangeAt Go.RowKit Go.Maps
open Lst Mem RowG GlyM GlyN GlyO MadN CadL CadF CadG CadH CadI CadJ CadP
set_option linter.unusedSimpArgs false
set_option linter.unusedVariables false
set_option maxRecDepth 4000
variable {LV : Value} {fm : Int} {ps : List Pr}
theorem glys_same {T : Tys} {w w' : World} {B : Nat} {v : Value} {Gs : List Gl} (h : Glys T w B v Gs) (hs : ∀ g t, IsT w g t → w'.heap[g]? = w.heap[g]?) : Glys T w' B v Gs := by
  obtain ⟨xs, ho, hi⟩ := h
  refine ⟨xs, own_block ho (fun g hg => hs g _ (own_isT ho hg).1), fun j hj => ?_⟩
  obtain ⟨a, b, x, y, z⟩ := hi j hj
  exact ⟨a, b, x, y, z.same fun g _ hg => by rcases hg with hg | hg | hg <;> exact hs g _ hg⟩
theorem blk_same {w w' : World} {b : Nat} {t : TypeId} {cs : List Value} (h : Blk b t cs w) (hs : ∀ g t, IsT w g t → w'.heap[g]? = w.heap[g]?) : Blk b t cs w' := (hs b t ⟨_, h⟩).trans h
section
variable {w0 W W' : World} {wa N gc m cap mb : Nat} {GA A : Option Addr} {Gs : List Gl} {ms : List Int} {cs : List Value}
/-- all of it, but for the letters' row -/
def InvH (fm : Int) (w0 : World) (wa N : Nat) (GA : Option Addr) (gc : Nat) (Gs : List Gl) (A : Option Addr) (m cap : Nat) (ms : List Int) (mb : Nat) (cs : List Value) (W : World) : Prop :=
  Src w0 A m ms ∧ Glys T W w0.heap.size (.slice GA N gc) Gs ∧ GsOk Gs ∧ Gs.length = N ∧ (0 < N ∧ N ≤ 9) ∧ (Blk mb 36 cs W ∧ Blk w0.heap.size 47 [.slice A m cap] W ∧ Blk (w0.heap.size + 1) 36 mz W ∧ w0.heap.size + 2 ≤ mb ∧ Below w0.heap.size w0 W) ∧ (∀ u ∈ cs, u.oneCell' = true) ∧ cs.length = 28 ∧ cs[1]? = some (.slice GA N gc) ∧ cs[27]? = some (.int .i64 wa) ∧ cs[6]? = some (.int .i64 fm)
theorem InvH.of (h : Inv fm ps w0 wa N GA gc Gs A m cap ms mb cs W) : InvH fm w0 wa N GA gc Gs A m cap ms mb cs W := by
  obtain ⟨a, b, c, d, e, ⟨k1, k2, k3, k4, k5, PV, p1, _⟩, f1, f2, f3, f4⟩ := h
  exact ⟨a, b, c, d, e, ⟨k1, k2, k3, k4, k5⟩, f1, f2, f3, f4, p1⟩
theorem InvH.same (h : InvH fm w0 wa N GA gc Gs A m cap ms mb cs W) (hs : ∀ g t, IsT W g t → t ≠ 41 → W'.heap[g]? = W.heap[g]?) (hb : Below w0.heap.size w0 W') : InvH fm w0 wa N GA gc Gs A m cap ms mb cs W' := by
  obtain ⟨a, b, c, d, e, ⟨k1, k2, k3, k4, k5⟩, f⟩ := h
  have q : ∀ {b : Nat} {t : TypeId} {cs : List Value}, t ≠ 41 → Blk b t cs W → Blk b t cs W' := fun hn hk => (hs _ _ ⟨_, hk⟩ hn).trans hk
  refine ⟨a, ?_, c, d, e, ⟨q (by decide) k1, q (by decide) k2, q (by decide) k3, k4, hb⟩, f⟩
  obtain ⟨xs, ho, hi⟩ := b
  refine ⟨xs, own_block ho (fun g hg => hs g _ (own_isT ho hg).1 (by decide)), fun j hj => ?_⟩
  obtain ⟨a, b, x, y, z⟩ := hi j hj
  exact ⟨a, b, x, y, z.same fun g _ hg => by rcases hg with hg | hg | hg <;> exact hs g _ hg (by decide)⟩
/-- what was made of cells stays: so does all -/
theorem inv_same (h : Inv fm ps w0 wa N GA gc Gs A m cap ms mb cs W) (hs : ∀ g t, IsT W g t → W'.heap[g]? = W.heap[g]?) (hb : Below w0.heap.size w0 W') : Inv fm ps w0 wa N GA gc Gs A m cap ms mb cs W' := by
  obtain ⟨a, b, c, d, e, ⟨k1, k2, k3, k4, k5, k6⟩, f⟩ := h
  exact ⟨a, glys_same b hs, c, d, e, ⟨blk_same k1 hs, blk_same k2 hs, blk_same k3 hs, k4, hb, k6.own fun g hg => hs g _ hg⟩, f⟩
/-- the map of letters turns -/
theorem inv_map {b n : Nat} {D : Dm} (h : Inv fm ps w0 wa N GA gc Gs A m cap ms mb cs W) (ho : Own W b n D) (hg : W.grownBy W' (some b)) (hB : w0.heap.size ≤ b) : Inv fm ps w0 wa N GA gc Gs A m cap ms mb cs W' :=
  inv_same h (fun g t ht => hg.block g ht.lt (fun e => own_ne ho ht (Option.some.inj e).symm)) (h.kc.2.2.2.2.1.grown hg h.kc.2.2.2.2.1.size (fun j hj => by injection hj with hj; omega))
theorem pinfo : (Tryd.prog.info? 41).map (fun i => (i.zero, i.size, i.bytes)) = some (some (.agg #[.int .i64 0, .int .i64 0]), 2, 16) := by kernel_rfl
/-- append of a letter whose block has just been made -/
theorem app_pair {ops : Array Oper} {rest : List Oper} {o : Oper} {a : Act} {Q : Exit → Act → World → Prop} {s x : Operand} {PV : Value} {v g : Int} (hgd : o.guard = none) (ho : o.op = .call { callee := .builtin .append, args := #[s, x], argTypes := #[29, 29] })
    (hs : a.eval s = PV) (hx : a.eval x = .slice (some ⟨W.heap.size, 0, none⟩) 1 1) (hI : Inv fm ps w0 wa N GA gc Gs A m cap ms mb cs W) (hPV : cs[5]? = some PV)
    (h : ∀ v' Z, InvH fm w0 wa N GA gc Gs A m cap ms mb cs Z → Z.ownsRow w0.heap.size 41 2 v' (ps ++ [(v, g)]).length ((ps ++ [(v, g)]).flatMap pc) → v'.oneCell' = true → (∀ b n D, Own W b n D → Own Z b n D) → W.heap.size ≤ Z.heap.size → wpList Tryd.prog ops Q rest (a.put o.dst v') Z) :
    wpList Tryd.prog ops Q (o :: rest) a (W.alloc (.cells #[.int .i64 v, .int .i64 g] 41)) := by
  obtain ⟨i2, hi2, iz2, iy2, ib2⟩ := info_parts pinfo
  have hsz := hI.sz
  have hb := bel_made W #[.int .i64 v, .int .i64 g] 41
  have hN := Blk.new_ W #[.int .i64 v, .int .i64 g] 41
  have hmap : ∀ b n D, Own W b n D → Own (W.alloc (.cells #[.int .i64 v, .int .i64 g] 41)) b n D := fun b n D hd => own_below hd hb
  have hI1 := hI.below hb
  obtain ⟨W2, hW⟩ : ∃ V, V = W.alloc (.cells #[.int .i64 v, .int .i64 g] 41) := ⟨_, rfl⟩
  rw [← hW] at hb hN hI1 hmap
  rw [← hW]
  obtain ⟨PV2, p1, p2, ow, hok⟩ := hI1.kc.2.2.2.2.2
  rw [hPV] at p2
  injection p2 with p2
  subst p2
  have h40 := hok.2.1
  have hsz2 := hI1.sz
  refine wpList_append_own_at W2 hgd s x _ ho w0.heap.size 41 i2 (.agg #[.int .i64 0, .int .i64 0]) 2 16 Tryd.underlying29 hi2 iz2 iy2 ib2 rfl (by decide) PV ps.length (ps.flatMap pc) hs ow ⟨W.heap.size, 0, none⟩ 1 1 [.int .i64 v, .int .i64 g] hx rfl (two_cells hN) (two_ints v g) (by unfold maxLen; omega) (by omega) (by omega) (fun v' Z own grow nil at' => h v' Z ?_ ?_ ?_ ?_ ?_)
  · refine InvH.same (InvH.of hI1) (fun g t hg hn => grow.block g hg.lt (fun e => ((own_isT ow e.symm).1.ne hg (fun e => hn e.symm)) rfl)) (hI1.kc.2.2.2.2.1.grown grow hI1.kc.2.2.2.2.1.size (fun j hj => (own_isT ow hj).2))
  · rw [List.length_append, List.flatMap_append]
    exact own
  · rcases own.2 with ⟨rfl, _⟩ | ⟨_, _, _, rfl, _⟩ <;> rfl
  · intro b n D hd
    exact own_row (hmap b n D hd) grow (fun g hg => (own_isT ow hg).1)
  · exact Nat.le_trans hb.size grow.size
/-- the row of letters is stored -/
theorem st5 {ops : Array Oper} {rest : List Oper} {o : Oper} {a : Act} {Q : Exit → Act → World → Prop} {x y : Operand} {v' : Value} (hgd : o.guard = none) (ho : o.op = .store 29 x y) (hd : o.dst = none) (hx : a.eval x = .pointer (some ⟨mb, 5, none⟩)) (hy : a.eval y = v') (h1 : v'.oneCell' = true) (hI : InvH fm w0 wa N GA gc Gs A m cap ms mb cs W)
    (own : W.ownsRow w0.heap.size 41 2 v' ps.length (ps.flatMap pc)) (hok : PsOk fm ps)
    (h : ∀ cs' Z, Inv fm ps w0 wa N GA gc Gs A m cap ms mb cs' Z → (∀ j, j ≠ 5 → cs'[j]? = cs[j]?) → (∀ b n D, Own W b n D → Own Z b n D) → Z.heap.size = W.heap.size → wpList Tryd.prog ops Q rest a Z) : wpList Tryd.prog ops Q (o :: rest) a W := by
  obtain ⟨q1, q2, q3, q4, q5, ⟨k1, k2, k3, k4, k5⟩, f1, f2, f3, f4, f5⟩ := hI
  have hc := k1.cell (i := 5) (List.getElem?_eq_getElem (by omega))
  have hf := k1.frozen 5
  have hI' : Inv fm ps w0 wa N GA gc Gs A m cap ms mb (cs.set 5 v') (W.setCell ⟨mb, 5, none⟩ v') := by
    refine ⟨q1, Glys.set_ q2 k1 (by decide) (by decide) (by decide) (by decide), q3, q4, q5, ⟨k1.set_ 5 v', k2.other (by omega), k3.other (by omega), k4, k5.setCell (p := ⟨mb, 5, none⟩) (by simp; omega) v', v', by rw [List.getElem?_set_ne (by decide)]; exact f5, List.getElem?_set_self (by omega), own_setk own k1 (by decide), hok⟩, fun u hu => ?_, by rw [List.length_set]; exact f2, by rw [List.getElem?_set_ne (by decide)]; exact f3, by rw [List.getElem?_set_ne (by decide)]; exact f4⟩
    rcases List.mem_or_eq_of_mem_set hu with hu | rfl
    · exact f1 u hu
    · exact h1
  have hm : ∀ b n D, Own W b n D → Own (W.setCell ⟨mb, 5, none⟩ v') b n D := fun b n D hd => own_set hd ⟨_, k1⟩
  have hz : (W.setCell ⟨mb, 5, none⟩ v').heap.size = W.heap.size := by simp
  refine wpList_plain hgd fun K hK => ?_
  unfold Oper.wp execOp
  simp only [ho, hx, hy]
  have := hK _ _ (h _ _ hI' (fun j hj => List.getElem?_set_ne (fun e => hj e.symm)) hm hz)
  rcases own.2 with ⟨rfl, _⟩ | ⟨g, cp, cur, rfl, _⟩
  all_goals
    clear h hK hI' own hm hz
    go_simp
    exact this
end
set_option maxHeartbeats 60000000 in
set_option maxRecDepth 4000 in
theorem r9 (f : Int) (wa N : Nat) (GA A : Option Addr) (gc m cap mb : Nat) (ms : List Int) (Gs : List Gl) (cs : List Value) (w W : World) (a : Act) (c : Code) (hc : c = dropC 9 body) (ha : Fr LV f w.heap.size mb a) (hI : Inv fm ps w wa N GA gc Gs A m cap ms mb cs W) (h9 : cs[9]? = some (.slice none 0 0)) (hv : cs[8]? = some (.slice none 0 0)) (b n : Nat) (D : Dm) (h14 : a.tmps[14]? = some (.map (some b))) (hown : Own W b n D) (hL : Lp fm ps D) (hbB : w.heap.size ≤ b) (hf : 0 ≤ f ∧ f ≤ 4294967295) : Code.wp Tryd.prog c (EndsM fm w wa) a W := by
  rw [hc]
  conv in (dropC _ _) => whnf
  obtain ⟨S, he, hS⟩ := ha.open_
  have e14 := hS 14 _ h14
  clear h14
  subst he
  clear ha hc hS
  rw [e14]
  clear e14
  have HI := Lib.hid (And.intro hI (And.intro h9 (And.intro hv (And.intro hown hL))))
  clear hI h9 hv hown hL
  go_wp2
  go_loopg [] (Maps.size D) (fun r wr => ∃ (ps : List Pr) (D : Dm) (n : Nat) (cs' : List Value), r = Maps.size D ∧ Inv fm ps w wa N GA gc Gs A m cap ms mb cs' wr ∧ cs'[9]? = some (.slice none 0 0) ∧ cs'[8]? = some (.slice none 0 0) ∧ Own wr b n D ∧ Lp fm ps D)
  case atStart => exact ⟨ps, D, n, cs, rfl, HI.out.1, HI.out.2.1, HI.out.2.2.1, HI.out.2.2.2.1, HI.out.2.2.2.2⟩
  case round =>
    clear HI
    obtain ⟨ps2, D2, n2, cs2, rfl, hI, h9, hv, hown, hL⟩ := hrel
    obtain ⟨W1, hW1⟩ : ∃ V, V = wr := ⟨_, rfl⟩
    subst hW1
    have hs40 : Maps.size D2 ≤ 40 := by have := hL.2.2.2.2; omega
    obtain ⟨z, hz⟩ : ∃ z, Maps.size D2 = z := ⟨_, rfl⟩
    have HZ := Lib.hid hz
    rw [hz] at hs40
    by_cases h0 : z = 0
    · have hd : decide ((z : Int) > 0) = false := by simp; omega
      have hd2 : decide ((0 : Int) < (z : Int)) = false := by simp; omega
      have hl := hown.len Tryd.underlying55 3
      rw [hz] at hl
      repeat (first | (refine r10 (ps := ps2) f wa N GA A gc m cap mb ms Gs _ w _ _ _ (by kernel_rfl) (by exact ⟨rfl, rfl, rfl, rfl, rfl, rfl, rfl⟩) hI h9 hv hf) | go_values | go_skip | go_guarded | go_step | go_upon | go_back | go_simp)
    · have hz0 : 0 < z := by omega
      have hd2 : decide ((0 : Int) < (z : Int)) = true := by simp; omega
      have hd : decide ((z : Int) > 0) = true := by simp; omega
      have hl := hown.len Tryd.underlying55 3
      rw [hz] at hl
      go_wp2_with (first | (at_range; refine wpList_range_own _ rfl _ 55 rfl 3 3 keyI Tryd.underlying55 _ b n2 _ rfl hown ?_; intro w0 hrg0 hg0 hs0) | fail)
      go_frame
      have hbel0 : Below W1.heap.size W1 w0 := (Below.refl W1.heap.size W1).grown hg0 (Nat.le_refl _) (fun j hj => by cases hj)
      have HA := Lib.hid (And.intro hI (And.intro h9 (And.intro hv (And.intro hown hL))))
      have HG := Lib.hid (And.intro hrg0 hbel0)
      have H0 := Lib.hid h0
      clear hI h9 hv hown hL hrg0 hg0 hs0 hbel0 hl hd hd2 hz h0 hz0
      go_loopw [18] (fun s wr => ∃ (left : Lit → Bool) (cnt : Nat) (v : Int), s = .int .i64 v ∧ wr.ranges Tryd.prog 3 (plainElem Tryd.prog 3) b W1.heap.size n2 D2 left cnt ∧ Low D2 left cnt v ∧ Below W1.heap.size W1 wr) (fun _ wr => wr.rangeLeft b W1.heap.size)
      case atStart => exact ⟨_, _, -1, rfl, HG.out.1, low_start D2, HG.out.2⟩
      case round =>
        clear HG
        obtain ⟨left, cnt, v, rfl, hrg, hlow, hbel⟩ := hrel
        have hvb := low_bd hlow
        go_wp2_with (first | (at_next; refine wpList_next_ranges_ii _ rfl _ rfl 3 3 .i64 .i64 keyI Tryd.underlying3 Tryd.underlying3 b W1.heap.size n2 _ _ _ rfl hrg ?_ ?_) | fail)
        · intro hc0 hl0
          obtain ⟨hv0, hhas, hleast⟩ := low_end hlow hc0 hl0 (by have := H0.out; rw [HZ.out]; omega)
          obtain ⟨x', g, hxe, hk, hg8, hat⟩ := HA.out.2.2.2.2.1 _ hhas
          have hownr := hrg.owns
          have hwf : (Lit.int .i64 v).wf = true := WalkArith.wf_i64 (by omega)
          have hkey := keyOf_int_mk (q := .i64) (a := v) Tryd.underlying3 hwf
          have hIr := HA.out.1.below hbel
          have HB := Lib.hid (And.intro hleast (And.intro hhas (And.intro hIr hownr)))
          have hlk : ∀ W' : World, Own W' b n2 D2 → (Instr.lookup 55 (.map (some b)) (.int .i64 v) false).run Tryd.prog W' = .ok (.int .i64 g) W' := fun W' hO => by
            obtain ⟨c, hrun, hcat, _⟩ := World.ownsMap.lookup_int hO keyI Tryd.underlying55 Tryd.underlying3 (zeroI _) hkey
            have := hcat.symm.trans (hat _)
            injection this with this
            injection this with _ this
            rw [this] at hrun
            exact hrun
          have hl1 := hlk _ hownr
          obtain ⟨PV, hc6, hPV, hown5, hps⟩ := hIr.kc.2.2.2.2.2
          have c5 := hIr.cell hPV
          clear hrg hlow hc0 hl0 hbel hxe hk hat hlk hleast hhas hownr hIr hc6 hown5 hps
          by_cases hgp : 0 < g
          · have hgd : decide (g > 0) = true := by simp; omega
            go_wp2_with (first | ((with_reducible refine Gate.append ?_); refine app_pair rfl rfl rfl rfl HB.out.2.2.1 hPV ?_; intro v' Z hH hO h1' hM hZs) | ((with_reducible refine Gate.store (t := 29) ?_); refine st5 (ps := ps2 ++ [(v, g)]) rfl rfl rfl rfl rfl h1' hH hO (HA.out.2.2.2.2.push HB.out.2.1 HB.out.1 (by omega)).2.2.1 ?_; intro cs3 Z3 hI3 hcs3 hM3 hZ3) | (at_delete; refine wpList_delete_own _ rfl _ _ 55 3 rfl 3 keyI Tryd.underlying55 _ b n2 _ rfl (hM3 _ _ _ (hM _ _ _ HB.out.2.2.2)) _ _ rfl hkey ?_; intro w5 ho5 ht5; go_frame) | fail)
            have hI5 := inv_map hI3 (hM3 _ _ _ (hM _ _ _ HB.out.2.2.2)) ht5.grown hbB
            go_roundg (Maps.size (D2.del (.int .i64 v)))
            case rel => exact ⟨ps2 ++ [(v, g)], D2.del (.int .i64 v), n2, cs3, rfl, hI5, (hcs3 9 (by decide)).trans HA.out.2.1, (hcs3 8 (by decide)).trans HA.out.2.2.1, ho5, HA.out.2.2.2.2.push HB.out.2.1 HB.out.1 (by omega)⟩
            case measure => have := size_less HA.out.2.2.2.2.2.1 HB.out.2.1; omega
          · have hgd : decide (g > 0) = false := by simp; omega
            go_wp2_with (first | (at_delete; refine wpList_delete_own _ rfl _ _ 55 3 rfl 3 keyI Tryd.underlying55 _ b n2 _ rfl HB.out.2.2.2 _ _ rfl hkey ?_; intro w5 ho5 ht5; go_frame) | fail)
            have hI5 := inv_map HB.out.2.2.1 HB.out.2.2.2 ht5.grown hbB
            go_roundg (Maps.size (D2.del (.int .i64 v)))
            case rel => exact ⟨ps2, D2.del (.int .i64 v), n2, cs2, rfl, hI5, HA.out.2.1, HA.out.2.2.1, ho5, HA.out.2.2.2.2.drop HB.out.2.1⟩
            case measure => have := size_less HA.out.2.2.2.2.2.1 HB.out.2.1; omega
        · intro x c w1 cnt1 hwx hwc hlx hat hrg1 hlt hg1 hs1 hen
          have hb1 := hbel.grown hg1 hbel.size (fun j hj => by injection hj with hj; omega)
          have hm : w1.rangeLeft b W1.heap.size < wr.rangeLeft b W1.heap.size := by rw [hrg1.left_eq, hrg.left_eq]; exact hlt
          by_cases hv0 : v < 0
          · have HF := Lib.hid (And.intro hrg1 (And.intro (low_first (cnt' := cnt1) hlow HA.out.2.2.2.2.1 hv0 hat) (And.intro hb1 hm)))
            clear hrg1 hlow hrg hlt hg1 hs1 hat hlx hb1 hm hbel
            have hd1 : decide (v < 0) = true := by simp; omega
            go_wp2
            go_roundw
            case rel => first | exact ⟨_, cnt1, x, rfl, HF.out.1, HF.out.2.1, HF.out.2.2.1⟩ | exact ⟨_, cnt1, HF.out.1, HF.out.2.1, HF.out.2.2.1⟩
            case measure => exact HF.out.2.2.2
          · by_cases hxv : x < v
            · have HF := Lib.hid (And.intro hrg1 (And.intro (low_less (cnt' := cnt1) hlow HA.out.2.2.2.2.1 hv0 hxv hat) (And.intro hb1 hm)))
              clear hrg1 hlow hrg hlt hg1 hs1 hat hlx hb1 hm hbel
              have hd1 : decide (v < 0) = false := by simp; omega
              have hd3 : decide (x < v) = true := by simp; omega
              go_wp2
              go_roundw
              case rel => first | exact ⟨_, cnt1, x, rfl, HF.out.1, HF.out.2.1, HF.out.2.2.1⟩ | exact ⟨_, cnt1, HF.out.1, HF.out.2.1, HF.out.2.2.1⟩
              case measure => exact HF.out.2.2.2
            · have HF := Lib.hid (And.intro hrg1 (And.intro (low_more (x := x) (c := c) (cnt' := cnt1) hlow hv0 hxv) (And.intro hb1 hm)))
              clear hrg1 hlow hrg hlt hg1 hs1 hat hlx hb1 hm hbel
              have hd1 : decide (v < 0) = false := by simp; omega
              have hd3 : decide (x < v) = false := by simp; omega
              go_wp2
              go_roundw
              case rel => first | exact ⟨_, cnt1, v, rfl, HF.out.1, HF.out.2.1, HF.out.2.2.1⟩ | exact ⟨_, cnt1, HF.out.1, HF.out.2.1, HF.out.2.2.1⟩
              case measure => exact HF.out.2.2.2
end Go.Proofs.YthcdolgmifkfdaaDoor.CadQ
