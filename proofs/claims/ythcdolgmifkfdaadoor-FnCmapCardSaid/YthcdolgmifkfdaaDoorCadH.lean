/- The making of a font: its names. -/
import Derived.Test.YthcdolgmifkfdaaDoorCadG
import Derived.Test.YthcdolgmifkfdaaDoorGate
import Derived.Deep.RegionHeld3
import Derived.Deep.CutBlock
import Derived.Deep.QuietTactic
import Derived.BigQuiet
namespace Go.Proofs.YthcdolgmifkfdaaDoor.CadH
open Go.ChangeShapes Go.WideShapes Go.ChangeAt Go.RowKit
open Lst Mem RowG GlyM GlyN GlyO MadN CadL CadF
set_option linter.unusedSimpArgs false
set_option linter.unusedVariables false
variable {LV : Value} {fm : Int} {ps : List Pr}
open CadG
set_option maxRecDepth 4000
theorem bs4 {ops : Array Oper} {rest : List Oper} {o : Oper} {a : Act} {w : World} {Q : Exit → Act → World → Prop} (hgd : o.guard = none)
    (ho : o.op = .buildSlice 28 4 #[(0, .const (.int .i64 1)), (1, .const (.int .i64 2)), (2, .const (.int .i64 4)), (3, .const (.int .i64 6))])
    (h : ∀ Z, w.alloc (.cells #[.int .i64 1, .int .i64 2, .int .i64 4, .int .i64 6] 3) = Z → wpList Tryd.prog ops Q rest (a.put o.dst (.slice (some ⟨w.heap.size, 0, none⟩) 4 4)) Z) : wpList Tryd.prog ops Q (o :: rest) a w := by
  refine wpList_plain hgd fun K hK => ?_
  unfold Oper.wp execOp
  simp only [ho]
  have := hK _ _ (h _ rfl)
  clear h hK
  go_simp
  exact this
theorem al1 {ops : Array Oper} {rest : List Oper} {o : Oper} {a : Act} {w : World} {Q : Exit → Act → World → Prop} (hgd : o.guard = none)
    (ho : o.op = .alloc 59)
    (h : ∀ Z, w.alloc (.cells #[.int .i64 0, .slice none 0 0, .bool false] 59) = Z → wpList Tryd.prog ops Q rest (a.put o.dst (.pointer (some ⟨w.heap.size, 0, none⟩))) Z) : wpList Tryd.prog ops Q (o :: rest) a w := by
  refine wpList_plain hgd fun K hK => ?_
  unfold Oper.wp execOp
  simp only [ho]
  have := hK _ _ (h _ rfl)
  clear h hK
  go_simp
  exact this
theorem ld1 {ops : Array Oper} {rest : List Oper} {o : Oper} {a : Act} {w : World} {x : Operand} {p : Addr} {v : Int} {Q : Exit → Act → World → Prop} (hgd : o.guard = none)
    (ho : o.op = .load 3 x) (hx : a.eval x = .pointer (some p)) (hc : w.cell? p = some (.int .i64 v))
    (h : wpList Tryd.prog ops Q rest (a.put o.dst (.int .i64 v)) w) : wpList Tryd.prog ops Q (o :: rest) a w := by
  refine wpList_plain hgd fun K hK => ?_
  unfold Oper.wp execOp
  simp only [ho, hx]
  have := hK _ _ h
  clear h hK
  go_simp
  exact this
section
variable {P : Program}
theorem bld {ops : Array Oper} {rest : List Oper} {o : Oper} {a : Act} {w : World} {Q : Exit → Act → World → Prop} (hg : o.guard = none) (t : TypeId) (parts : Array (Nat × Operand)) (ho : o.op = .build t parts) (cs : Array Value)
    (hb : P.built t (parts.map fun (i, x) => (i, a.eval x)).toList = some cs) (h : wpList P ops Q rest (a.put o.dst (.agg cs)) w) : wpList P ops Q (o :: rest) a w :=
  wpList_build hg t parts ho (by rw [hb]; rfl) (by rw [hb]; exact h)
theorem st_row_eq {ops : Array Oper} {rest : List Oper} {o : Oper} {a : Act} {w : World} {Q : Exit → Act → World → Prop} (hgd : o.guard = none) (ty : TypeId) (x y : Operand) (ho : o.op = .store ty x y)
    (g : Nat) (cells : Array Value) (hx : a.eval x = .pointer (some ⟨g, 0, none⟩)) (hy : a.eval y = .agg cells) (t : TypeId) (old : Array Value) (hg : w.heap[g]? = some (.cells old t (0, 0))) (hi : (P.info? ty).map (·.size) = some cells.size)
    (hold : old.size = cells.size) (h1 : cells.all (·.oneCell') = true) (h : ∀ Z, w.setRow g cells = Z → wpList P ops Q rest (a.put o.dst undef) Z) : wpList P ops Q (o :: rest) a w :=
  wpList_store_row hgd ty x y ho g cells hx hy t old hg hi hold h1 (h _ rfl)
end
/-- what the making of a name keeps: the font's, the names so far, the name's box, its letters so far -/
def St (fm : Int) (ps : List Pr) (w0 : World) (wa N : Nat) (GA : Option Addr) (gc : Nat) (Gs : List Gl) (A : Option Addr) (m cap : Nat) (ms : List Int) (mb : Nat) (cs : List Value) (vN : Value) (k : Nat) (xs : List Value) (nb : Nat) (id : Int) (wd : Bool) (vB vX : Value) (j : Nat) (W : World) : Prop :=
  Inv fm ps w0 wa N GA gc Gs A m cap ms mb cs W ∧ W.ownsRow w0.heap.size 59 3 vN k xs ∧ vN.ownBlock ≠ some nb ∧ w0.heap.size ≤ nb ∧ Blk nb 59 [.int .i64 id, vB, .bool wd] W ∧ ∃ ys, W.ownsRow w0.heap.size 3 1 vX j ys
section
variable {w0 W W' : World} {wa N gc m cap mb k nb j : Nat} {GA A : Option Addr} {Gs : List Gl} {ms : List Int} {cs xs : List Value} {vN vB vX : Value} {id : Int} {wd : Bool}
theorem Inv.other {b i : Nat} {t : TypeId} {bs : List Value} {u : Value} (h : Inv fm ps w0 wa N GA gc Gs A m cap ms mb cs W) (hb : Blk b t bs W) (hB : w0.heap.size ≤ b) (h1 : t ≠ 36) (h2 : t ≠ 47) (h3 : t ≠ 53) (h4 : t ≠ 75) (h5 : t ≠ 73) (h6 : t ≠ 72) (h7 : t ≠ 41 := by decide) :
    Inv fm ps w0 wa N GA gc Gs A m cap ms mb cs (W.setCell ⟨b, i, none⟩ u) := by
  have ne : ∀ {g : Nat} {t' : TypeId} {cs' : List Value}, Blk g t' cs' W → t ≠ t' → g ≠ b := fun hg hn e => (IsT.ne ⟨_, hb⟩ ⟨_, hg⟩ hn) e.symm
  obtain ⟨a1, a2, a3, a4, a5, ⟨k1, k2, k3, k4, k5, k6⟩, a7⟩ := h
  exact ⟨a1, Glys.set_ a2 hb h3 h4 h5 h6, a3, a4, a5, ⟨k1.other (ne k1 h1), k2.other (ne k2 h2), k3.other (ne k3 h1), k4, k5.setCell (p := ⟨b, i, none⟩) hB u, k6.set_ hb h7⟩, a7⟩
theorem St.below (h : St fm ps w0 wa N GA gc Gs A m cap ms mb cs vN k xs nb id wd vB vX j W) (hb : Below W.heap.size W W') : St fm ps w0 wa N GA gc Gs A m cap ms mb cs vN k xs nb id wd vB vX j W' := by
  obtain ⟨a, b, c, d, e, ys, f⟩ := h
  exact ⟨a.below hb, own_keep b hb, c, d, e.keep hb, ys, own_keep f hb⟩
theorem St.number (h : St fm ps w0 wa N GA gc Gs A m cap ms mb cs vN k xs nb id wd vB vX j W) (q : Int) (hq : 0 ≤ q ∧ q ≤ 100000) :
    Calls Tryd.prog 9 #[.int .i64 q, .pointer (some ⟨w0.heap.size, 0, none⟩)] W (fun e W' => ∃ v, e = .returned (.int .i64 v) ∧ (-4000000 ≤ v ∧ v ≤ 4000000) ∧ St fm ps w0 wa N GA gc Gs A m cap ms mb cs vN k xs nb id wd vB vX j W') := by
  refine (h.1.number q hq).mono ?_
  rintro e X ⟨v, rfl, hv, hb, _⟩
  exact ⟨v, rfl, hv, h.below hb⟩
theorem bs1 {ops : Array Oper} {rest : List Oper} {o : Oper} {a : Act} {Q : Exit → Act → World → Prop} {x : Operand} {v : Int} (hgd : o.guard = none) (ho : o.op = .buildSlice 28 1 #[(0, x)]) (hx : a.eval x = .int .i64 v) (hS : St fm ps w0 wa N GA gc Gs A m cap ms mb cs vN k xs nb id wd vB vX j W)
    (h : ∀ Z, St fm ps w0 wa N GA gc Gs A m cap ms mb cs vN k xs nb id wd vB vX j Z → Z.cell? ⟨W.heap.size, 0, none⟩ = some (.int .i64 v) → wpList Tryd.prog ops Q rest (a.put o.dst (.slice (some ⟨W.heap.size, 0, none⟩) 1 1)) Z) : wpList Tryd.prog ops Q (o :: rest) a W := by
  refine wpList_plain hgd fun K hK => ?_
  unfold Oper.wp execOp
  simp only [ho, List.map_toArray, List.map_cons, List.map_nil, hx]
  have := hK _ _ (h (W.alloc (.cells #[.int .i64 v] 3)) (hS.below (bel_made _ _ _)) ((Blk.new_ W #[.int .i64 v] 3).cell (i := 0) rfl))
  clear h hK hS
  go_simp
  exact this
theorem app_st {ops : Array Oper} {rest : List Oper} {o : Oper} {a : Act} {Q : Exit → Act → World → Prop} {s x : Operand} {v : Int} {b : Nat} (hgd : o.guard = none) (ho : o.op = .call { callee := .builtin .append, args := #[s, x], argTypes := #[28, 28] }) (hs : a.eval s = vX) (hx : a.eval x = .slice (some ⟨b, 0, none⟩) 1 1) (hS : St fm ps w0 wa N GA gc Gs A m cap ms mb cs vN k xs nb id wd vB vX j W)
    (hc : W.cell? ⟨b, 0, none⟩ = some (.int .i64 v)) (hj : j ≤ 100)
    (h : ∀ v' Z, v'.oneCell' = true → St fm ps w0 wa N GA gc Gs A m cap ms mb cs vN k xs nb id wd vB v' (j + 1) Z → wpList Tryd.prog ops Q rest (a.put o.dst v') Z) : wpList Tryd.prog ops Q (o :: rest) a W := by
  obtain ⟨i2, hi2, iz2, iy2, ib2⟩ := info_parts iinfo
  obtain ⟨a1, b1, c1, d1, e1, ys, f1⟩ := hS
  refine wpList_append_own W hgd s x _ ho w0.heap.size 3 i2 (.int .i64 0) 1 8 Tryd.underlying28 hi2 iz2 iy2 ib2 rfl (by decide) vX j ys hs f1 ⟨b, 0, none⟩ 1 1 [.int .i64 v] hx rfl (fun q u hq => ?_) (fun u hu => by simp at hu; subst hu; rfl) (by unfold maxLen; omega) (by omega) (by have := a1.sz; omega) (fun v' Z own grow nil => h v' Z ?_ ⟨?_, ?_, c1, d1, ?_, _, own⟩)
  · match q, hq with
    | 0, hq => simp at hq; subst hq; rw [Addr.add_lit]; exact hc
  · rcases own.2 with ⟨rfl, _⟩ | ⟨_, _, _, rfl, _⟩ <;> rfl
  · exact a1.grown grow (t := 3) (fun b hb => own_isT f1 hb) (by decide) (by decide) (by decide) (by decide) (by decide) (by decide)
  · exact b1.kept grow (own_far b1 f1 (by decide))
  · exact blk_grown e1 grow (fun e => (IsT.ne (own_isT f1 e).1 ⟨_, e1⟩ (by decide)) rfl)
theorem st_name {ops : Array Oper} {rest : List Oper} {o : Oper} {a : Act} {Q : Exit → Act → World → Prop} {x y : Operand} (hgd : o.guard = none) (ho : o.op = .store 28 x y) (hd : o.dst = none) (hx : a.eval x = .pointer (some ⟨nb, 1, none⟩)) (hy : a.eval y = vX) (h1 : vX.oneCell' = true) (hS : St fm ps w0 wa N GA gc Gs A m cap ms mb cs vN k xs nb id wd vB vX j W)
    (h : ∀ Z, St fm ps w0 wa N GA gc Gs A m cap ms mb cs vN k xs nb id wd vX vX j Z → wpList Tryd.prog ops Q rest a Z) : wpList Tryd.prog ops Q (o :: rest) a W := by
  obtain ⟨a1, b1, c1, d1, e1, ys, f1⟩ := hS
  have hc := e1.cell (i := 1) rfl
  have hf := e1.frozen 1
  have hZ : St fm ps w0 wa N GA gc Gs A m cap ms mb cs vN k xs nb id wd vX vX j (W.setCell ⟨nb, 1, none⟩ vX) := by
    refine ⟨Inv.other a1 e1 d1 (by decide) (by decide) (by decide) (by decide) (by decide) (by decide), own_block b1 (fun g hg => Below.heap_setCell _ _ _ _ (fun e => c1 (by rw [hg, e]))), c1, d1, e1.set_ 1 vX, ys, own_setk f1 e1 (by decide)⟩
  refine wpList_plain hgd fun K hK => ?_
  unfold Oper.wp execOp
  simp only [ho, hx, hy]
  have := hK _ _ (h _ hZ)
  rcases f1.2 with ⟨rfl, _⟩ | ⟨g, cp, cur, rfl, _⟩
  all_goals
    clear h hK hZ a1 b1 e1 f1
    go_simp
    exact this
end
theorem name_info : (Tryd.prog.info? 59).map (·.size) = some 3 := by kernel_rfl
theorem ix4 {ops : Array Oper} {rest : List Oper} {o : Oper} {a : Act} {w : World} {x y : Operand} {b k : Nat} {Q : Exit → Act → World → Prop} (hgd : o.guard = none)
    (ho : o.op = .indexAddr 28 x y) (hx : a.eval x = .slice (some ⟨b, 0, none⟩) 4 4) (hy : a.eval y = .int .i64 (k : Int)) (hk : (k : Int) < 4)
    (h : wpList Tryd.prog ops Q rest (a.put o.dst (.pointer (some ⟨b, k, none⟩))) w) : wpList Tryd.prog ops Q (o :: rest) a w := by
  refine wpList_plain hgd fun K hK => ?_
  unfold Oper.wp execOp
  simp only [ho, hx, hy]
  have := hK _ _ h
  clear h hK
  go_simp
  exact this
section
variable {w0 W W' : World} {wa N gc m cap mb k b : Nat} {GA A : Option Addr} {Gs : List Gl} {ms : List Int} {cs xs : List Value} {vN u1 u2 u3 : Value}
theorem bsN {ops : Array Oper} {rest : List Oper} {o : Oper} {a : Act} {Q : Exit → Act → World → Prop} {x : Operand} (hgd : o.guard = none) (ho : o.op = .buildSlice 31 1 #[(0, x)]) (hx : a.eval x = .agg #[u1, u2, u3]) (hI : Inv fm ps w0 wa N GA gc Gs A m cap ms mb cs W) (own : W.ownsRow w0.heap.size 59 3 vN k xs)
    (h : ∀ Z, Inv fm ps w0 wa N GA gc Gs A m cap ms mb cs Z → Z.ownsRow w0.heap.size 59 3 vN k xs → Blk W.heap.size 59 [u1, u2, u3] Z → wpList Tryd.prog ops Q rest (a.put o.dst (.slice (some ⟨W.heap.size, 0, none⟩) 1 1)) Z) : wpList Tryd.prog ops Q (o :: rest) a W := by
  refine wpList_plain hgd fun K hK => ?_
  unfold Oper.wp execOp
  simp only [ho, List.map_toArray, List.map_cons, List.map_nil, hx]
  have := hK _ _ (h (W.alloc (.cells #[u1, u2, u3] 59)) (hI.below (bel_made _ _ _)) (own_keep own (bel_made _ _ _)) (Blk.new_ W #[u1, u2, u3] 59))
  clear h hK hI own
  go_simp
  exact this
theorem appN {ops : Array Oper} {rest : List Oper} {o : Oper} {a : Act} {Q : Exit → Act → World → Prop} {s x : Operand} (hgd : o.guard = none) (ho : o.op = .call { callee := .builtin .append, args := #[s, x], argTypes := #[31, 31] }) (hs : a.eval s = vN) (hx : a.eval x = .slice (some ⟨b, 0, none⟩) 1 1) (hI : Inv fm ps w0 wa N GA gc Gs A m cap ms mb cs W) (own : W.ownsRow w0.heap.size 59 3 vN k xs)
    (hb : Blk b 59 [u1, u2, u3] W) (h1 : u1.oneCell' = true ∧ u2.oneCell' = true ∧ u3.oneCell' = true) (hk : k ≤ 100)
    (h : ∀ v' Z ys, v'.oneCell' = true → Inv fm ps w0 wa N GA gc Gs A m cap ms mb cs Z → Z.ownsRow w0.heap.size 59 3 v' (k + 1) ys → wpList Tryd.prog ops Q rest (a.put o.dst v') Z) : wpList Tryd.prog ops Q (o :: rest) a W := by
  obtain ⟨i5, hi5, iz5, iy5, ib5⟩ := info_parts ninfo
  refine wpList_append_own W hgd s x _ ho w0.heap.size 59 i5 (.agg #[.int .i64 0, .slice none 0 0, .bool false]) 3 40 Tryd.underlying31 hi5 iz5 iy5 ib5 rfl (by decide) vN k xs hs own ⟨b, 0, none⟩ 1 1 [u1, u2, u3] hx rfl (fun q u hq => ?_) (fun u hu => ?_) (by unfold maxLen; omega) (by omega) (by have := hI.sz; omega) (fun v' Z own' grow nil => h v' Z _ ?_ ?_ own')
  · rw [Addr.add_lit, Nat.zero_add]; exact hb.cell hq
  · simp at hu; rcases hu with rfl | rfl | rfl
    · exact h1.1
    · exact h1.2.1
    · exact h1.2.2
  · rcases own'.2 with ⟨rfl, _⟩ | ⟨_, _, _, rfl, _⟩ <;> rfl
  · exact hI.grown grow (t := 59) (fun b hb => own_isT own hb) (by decide) (by decide) (by decide) (by decide) (by decide) (by decide)
theorem st9 {ops : Array Oper} {rest : List Oper} {o : Oper} {a : Act} {Q : Exit → Act → World → Prop} {x y : Operand} (hgd : o.guard = none) (ho : o.op = .store 31 x y) (hd : o.dst = none) (hx : a.eval x = .pointer (some ⟨mb, 9, none⟩)) (hy : a.eval y = vN) (h1 : vN.oneCell' = true) (hI : Inv fm ps w0 wa N GA gc Gs A m cap ms mb cs W) (own : W.ownsRow w0.heap.size 59 3 vN k xs)
    (h : ∀ cs' Z, Inv fm ps w0 wa N GA gc Gs A m cap ms mb cs' Z → cs'[9]? = some vN → Z.ownsRow w0.heap.size 59 3 vN k xs → wpList Tryd.prog ops Q rest a Z) : wpList Tryd.prog ops Q (o :: rest) a W := by
  have hl := hI.len
  have hc := hI.cell (i := 9) (List.getElem?_eq_getElem (by omega))
  have hf := hI.frozen 9
  refine wpList_plain hgd fun K hK => ?_
  unfold Oper.wp execOp
  simp only [ho, hx, hy]
  have := hK _ _ (h _ _ (hI.set_ (i := 9) (u := vN) (by decide) (by decide) h1) (List.getElem?_set_self (by omega)) (own_setk own hI.kc.1 (by decide)))
  rcases own.2 with ⟨rfl, _⟩ | ⟨g, cp, cur, rfl, _⟩
  all_goals
    clear h hK hI own
    go_simp
    exact this
end
set_option maxHeartbeats 60000000 in
set_option maxRecDepth 4000 in
theorem r13 (f : Int) (wa N : Nat) (GA A : Option Addr) (gc m cap mb : Nat) (ms : List Int) (Gs : List Gl) (cs : List Value) (w W : World) (a : Act) (c : Code) (hc : c = dropC 13 body) (ha : Fr LV f w.heap.size mb a) (hI : Inv fm ps w wa N GA gc Gs A m cap ms mb cs W) (h9 : cs[9]? = some (.slice none 0 0)) (hf : 0 ≤ f ∧ f ≤ 4294967295) : Code.wp Tryd.prog c (EndsM fm w wa) a W := by
  rw [hc]
  conv in (dropC _ _) => whnf
  obtain ⟨S, he, hS⟩ := ha.open_
  subst he
  clear ha hc hS
  obtain ⟨i2, hi2, iz2, iy2, ib2⟩ := info_parts iinfo
  obtain ⟨i5, hi5, iz5, iy5, ib5⟩ := info_parts ninfo
  obtain ⟨M, hM⟩ : ∃ M : Nat, (f / 16777216).tmod 5 = (M : Int) := ⟨((f / 16777216).tmod 5).toNat, by have := Int.tmod_nonneg (a := f / 16777216) 5 (by omega); omega⟩
  have hM5 : M < 5 := by have := Int.tmod_lt_of_pos (f / 16777216) (b := 5) (by omega); omega
  have wM : IntKind.i64.wrap (M : Int) = M := IntWalk.i64_in _ (by omega)
  have HI := Lib.hid hI
  clear hI
  go_wp2
  clear hM wM
  go_loopw [314] (fun i wr => ∃ (k : Nat) (cs' : List Value) (vN : Value) (xs : List Value), i = .int .i64 k ∧ k ≤ M ∧ Inv fm ps w wa N GA gc Gs A m cap ms mb cs' wr ∧ cs'[9]? = some vN ∧ wr.ownsRow w.heap.size 59 3 vN k xs) (fun i _ => M - (intOf i).toNat)
  case atStart => exact ⟨0, cs, _, [], rfl, Nat.zero_le _, HI.out, h9, World.ownsRow_nil _ _ _ _⟩
  case round =>
    clear h9 HI
    obtain ⟨k, cs2, vN, xs, rfl, hkM, hI, h9, ho⟩ := hrel
    by_cases hlt : k < M
    · obtain ⟨id, hid⟩ : ∃ id : Int, ([Value.int .i64 1, .int .i64 2, .int .i64 4, .int .i64 6])[k]? = some (.int .i64 id) := by
        match k, (show k < 4 by omega) with
        | 0, _ => exact ⟨_, rfl⟩
        | 1, _ => exact ⟨_, rfl⟩
        | 2, _ => exact ⟨_, rfl⟩
        | 3, _ => exact ⟨_, rfl⟩
      have hk4 : k < 4 := by omega
      have hk4i : (k : Int) < 4 := by omega
      obtain ⟨wd, hwd⟩ : ∃ b, (bits BinOp.and IntKind.u32 (f / 134217728) 1 == 1) = b := ⟨_, rfl⟩
      obtain ⟨F3, hF3⟩ : ∃ F3 : Int, f / 2 ^ ((k : Int) + 3).toNat = F3 := ⟨_, rfl⟩
      have hF3b : 0 ≤ F3 ∧ F3 ≤ 4294967295 := by
        rw [← hF3]
        exact ⟨Int.ediv_nonneg hf.1 (by have : (0 : Int) < 2 ^ ((k : Int) + 3).toNat := Int.pow_pos (by decide); omega), Int.le_trans (Int.ediv_le_self _ hf.1) hf.2⟩
      obtain ⟨J, hJ⟩ : ∃ J : Nat, F3.tmod 12 = (J : Int) := ⟨(F3.tmod 12).toNat, by have := Int.tmod_nonneg (a := F3) 12 hF3b.1; omega⟩
      have hJ12 : J < 12 := by have := Int.tmod_lt_of_pos F3 (b := 12) (by omega); omega
      have wF3 : IntKind.i64.wrap F3 = F3 := IntWalk.i64_in _ (by omega)
      have wJ : IntKind.i64.wrap (J : Int) = J := IntWalk.i64_in _ (by omega)
      have wk3 : IntKind.i64.wrap ((k : Int) + 3) = (k : Int) + 3 := IntWalk.i64_in _ (by omega)
      have HID := Lib.hid hid
      have HX := Lib.hid (And.intro hI (And.intro h9 ho))
      clear hI h9 ho hid
      repeat (go_not_at_block 17; first | ((with_reducible refine Gate.buildSlice (t := 28) (k := 4) ?_); refine bs4 rfl rfl ?_; intro Z1 hZ1; have hc1 : Z1.cell? ⟨wr.heap.size, k, none⟩ = some (.int .i64 id) := by (rw [← hZ1]; exact (Blk.new_ wr #[.int .i64 1, .int .i64 2, .int .i64 4, .int .i64 6] 3).cell HID.out)) | ((with_reducible refine Gate.alloc (t := 59) ?_); refine al1 rfl rfl ?_; intro Z2 hZ2; have hz : Blk Z1.heap.size 59 [.int .i64 0, .slice none 0 0, .bool false] Z2 := by (rw [← hZ2]; exact Blk.new_ Z1 #[.int .i64 0, .slice none 0 0, .bool false] 59)) | ((with_reducible refine Gate.build (t := 59) ?_); refine bld rfl 59 _ rfl #[.int .i64 id, .slice none 0 0, .bool wd] (by kernel_rfl) ?_) | ((with_reducible refine Gate.store (t := 59) ?_); refine st_row_eq rfl 59 _ _ rfl Z1.heap.size #[.int .i64 id, .slice none 0 0, .bool wd] rfl rfl 59 #[.int .i64 0, .slice none 0 0, .bool false] hz name_info rfl (by kernel_rfl) ?_; intro Z hZ) | ((with_reducible refine Gate.indexAddr ?_); refine ix4 rfl rfl rfl rfl hk4i ?_) | ((with_reducible refine Gate.load (t := 3) ?_); refine ld1 rfl rfl rfl hc1 ?_) | go_values | go_skip | go_guarded | go_step | go_upon | go_back | go_simp)
      have hd1 : Below wr.heap.size wr Z1 := by rw [← hZ1]; exact bel_made _ _ _
      have hd2 : Below wr.heap.size wr Z2 := hd1.trans (by rw [← hZ2]; exact (bel_made _ _ _).mono hd1.size)
      have hd3 : Below wr.heap.size wr Z := by rw [← hZ]; exact bel_row hd2 hd1.size
      have hbZ : Blk Z1.heap.size 59 [.int .i64 id, .slice none 0 0, .bool wd] Z := by rw [← hZ]; exact blk_row hz _
      have hS : St fm ps w wa N GA gc Gs A m cap ms mb cs2 vN k xs Z1.heap.size id wd (.slice none 0 0) (.slice none 0 0) 0 Z :=
        ⟨HX.out.1.below hd3, own_keep HX.out.2.2 hd3, fun e => by have := own_lt HX.out.2.2 e; have := hd1.size; omega, by have := HX.out.1.sz; have := hd1.size; omega, hbZ, [], World.ownsRow_nil _ _ _ _⟩
      obtain ⟨nb, hnb⟩ : ∃ nb, nb = Z1.heap.size := ⟨_, rfl⟩
      rw [← hnb] at hS
      rw [← hnb]
      have HS := Lib.hid hS
      clear hZ hZ1 hZ2 hz hc1 hd1 hd2 hd3 hbZ hS hnb
      clear hF3 hF3b hJ wF3 wJ wk3 hwd hk4i HID
      go_wp2
      go_loopw [332] (fun i wq => ∃ (j : Nat) (vX : Value), i = .int .i64 j ∧ j ≤ J ∧ St fm ps w wa N GA gc Gs A m cap ms mb cs2 vN k xs nb id wd vX vX j wq) (fun i _ => J - (intOf i).toNat)
      case atStart => exact ⟨0, _, rfl, Nat.zero_le _, HS.out⟩
      case round =>
        clear HS
        obtain ⟨j, vX, rfl, hjJ, hS⟩ := hrel
        by_cases hjl : j < J
        · have hjl2 : (j : Int) < (J : Int) := by omega
          go_wp2_with fail
          go_at_call 9
          refine (hS.number (j : Int) (by omega)).mono ?_
          clear hS
          rintro e Q1 ⟨v, rfl, hv, hS⟩
          have cwd := hS.2.2.2.2.1.cell (i := 2) rfl
          have cX := hS.2.2.2.2.1.cell (i := 1) rfl
          cases wd
          case false =>
            repeat ((fail_if_success with_reducible refine And.intro ?_ ?_); first | ((with_reducible refine Gate.buildSlice (t := 28) (k := 1) ?_); refine bs1 rfl rfl rfl hS ?_; intro Z3 hS3 hc3) | ((with_reducible refine Gate.append ?_); refine app_st rfl rfl rfl rfl hS3 hc3 (by omega) ?_; intro v4 Z4 h14 hS4) | ((with_reducible refine Gate.store (t := 28) ?_); refine st_name rfl rfl rfl rfl rfl h14 hS4 ?_; intro Z5 hS5) | go_values | go_skip | go_guarded | go_step | go_upon | go_back | go_simp)
            go_roundw
            case rel => exact ⟨j + 1, v4, by go_num, by omega, hS5⟩
            case measure => simp [intOf]; omega
          case true =>
            by_cases h3 : (j : Int).tmod 3 = 1
            · have wj3 : IntKind.i64.wrap ((j : Int).tmod 3) = 1 := by rw [h3]; rfl
              go_wp2_with fail
              go_at_call 9
              refine (hS.number (j : Int) (by omega)).mono ?_
              clear hS cwd cX
              rintro e Q2 ⟨v2, rfl, hv2, hS⟩
              have cX := hS.2.2.2.2.1.cell (i := 1) rfl
              repeat ((fail_if_success with_reducible refine And.intro ?_ ?_); first | ((with_reducible refine Gate.buildSlice (t := 28) (k := 1) ?_); refine bs1 rfl rfl rfl hS ?_; intro Z3 hS3 hc3) | ((with_reducible refine Gate.append ?_); refine app_st rfl rfl rfl rfl hS3 hc3 (by omega) ?_; intro v4 Z4 h14 hS4) | ((with_reducible refine Gate.store (t := 28) ?_); refine st_name rfl rfl rfl rfl rfl h14 hS4 ?_; intro Z5 hS5) | go_values | go_skip | go_guarded | go_step | go_upon | go_back | go_simp)
              go_roundw
              case rel => exact ⟨j + 1, v4, by go_num, by omega, hS5⟩
              case measure => simp [intOf]; omega
            · have h3b := IntWalk.i64_in ((j : Int).tmod 3) (by have := Int.tmod_nonneg (a := (j : Int)) 3 (by omega); have := Int.tmod_lt_of_pos (j : Int) (b := 3) (by omega); omega)
              have h3c : ((j : Int) % 3 == 1) = false := by rw [← Int.tmod_eq_emod_of_nonneg (a := (j : Int)) (b := 3) (by omega)]; simpa using h3
              repeat ((fail_if_success with_reducible refine And.intro ?_ ?_); first | ((with_reducible refine Gate.buildSlice (t := 28) (k := 1) ?_); refine bs1 rfl rfl rfl hS ?_; intro Z3 hS3 hc3) | ((with_reducible refine Gate.append ?_); refine app_st rfl rfl rfl rfl hS3 hc3 (by omega) ?_; intro v4 Z4 h14 hS4) | ((with_reducible refine Gate.store (t := 28) ?_); refine st_name rfl rfl rfl rfl rfl h14 hS4 ?_; intro Z5 hS5) | go_values | go_skip | go_guarded | go_step | go_upon | go_back | go_simp)
              go_roundw
              case rel => exact ⟨j + 1, v4, by go_num, by omega, hS5⟩
              case measure => simp [intOf]; omega
        · have hjl2 : ¬ ((j : Int) < (J : Int)) := by omega
          have hI := hS.1
          have c9 := hI.cell HX.out.2.1
          have hoN := hS.2.1
          have hbN := hS.2.2.2.2.1
          have h1X : vX.oneCell' = true := by
            obtain ⟨ys, hy⟩ := hS.2.2.2.2.2
            rcases hy.2 with ⟨h, _⟩ | ⟨_, _, _, h, _⟩ <;> (rw [h]; rfl)
          have HN := Lib.hid (And.intro hI (And.intro hoN hbN))
          clear hS
          repeat ((fail_if_success with_reducible refine And.intro ?_ ?_); first | ((with_reducible refine Gate.load (t := 59) ?_); refine wpList_load_row rfl 59 _ rfl nb rfl 59 #[.int .i64 id, vX, .bool wd] (0, 0) _ hbN rfl rfl name_info ?_) | ((with_reducible refine Gate.buildSlice (t := 31) ?_); refine bsN rfl rfl rfl hI hoN ?_; intro Z3 hI3 ho3 hb3) | ((with_reducible refine Gate.append ?_); refine appN rfl rfl rfl rfl hI3 ho3 hb3 ⟨rfl, h1X, rfl⟩ (by omega) ?_; intro v4 Z4 ys4 h14 hI4 ho4) | ((with_reducible refine Gate.store (t := 31) ?_); refine st9 rfl rfl rfl rfl rfl h14 hI4 ho4 ?_; intro cs5 Z5 hI5 h95 ho5) | go_values | go_skip | go_guarded | go_step | go_upon | go_back | go_simp)
          go_roundw
          case rel => exact ⟨k + 1, cs5, v4, ys4, by go_num, by omega, hI5, h95, ho5⟩
          case measure => simp [intOf]; omega
    · obtain rfl : k = M := by omega
      repeat (first | ((with_reducible refine Gate.seq ?_); refine r14 f wa N GA A gc m cap mb ms Gs _ w _ _ _ (by kernel_rfl) (by exact ⟨rfl, rfl, rfl, rfl, rfl, rfl, rfl⟩) hI) | go_values | go_skip | go_guarded | go_step | go_upon | go_back | go_simp)
end Go.Proofs.YthcdolgmifkfdaaDoor.CadH
