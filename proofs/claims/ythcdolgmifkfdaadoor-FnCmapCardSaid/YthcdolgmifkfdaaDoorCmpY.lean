/- Rows of numbers of the call's own, side by side: one grows, the others stay. -/
import Derived.Test.YthcdolgmifkfdaaDoorCmpX
import Derived.Test.YthcdolgmifkfdaaDoorCmpZ
namespace Go.Proofs.YthcdolgmifkfdaaDoor.CmpY
open Go.ChangeShapes Go.WideShapes Go.ChangeAt Go.RowKit
open Lst Mem RowG SpecB SfntB GlyM CadL FourB View AppZ CmpL CmpC CmpM CmpN CmpS CmpT CmpU CmpV CmpW CmpX
set_option linter.unusedSimpArgs false
set_option linter.unusedVariables false
abbrev VL := Value × List Int
/-- rows of numbers of the call's own, none nil, each in a block of its own -/
def Fm (w0 w : World) (vs : List VL) : Prop :=
  (∀ (i : Nat) (p : VL), vs[i]? = some p → w.ownsRow w0.heap.size 3 1 p.1 p.2.length (vals .i64 p.2) ∧ p.1 ≠ .slice none 0 0) ∧
  (∀ (i j : Nat) (p q : VL), i ≠ j → vs[i]? = some p → vs[j]? = some q → p.1.ownBlock ≠ q.1.ownBlock) ∧ Below w0.heap.size w0 w
theorem Fm.keep {w0 w w' : World} {vs : List VL} (h : Fm w0 w vs) (hb : Below w.heap.size w w') : Fm w0 w' vs :=
  ⟨fun i p hp => ⟨own_keep (h.1 i p hp).1 hb, (h.1 i p hp).2⟩, h.2.1, h.2.2.trans (hb.mono h.2.2.size)⟩
theorem Fm.start {w0 w : World} (hb : Below w0.heap.size w0 w) : Fm w0 w [] := ⟨(fun i p h => by cases h), (fun i j p q _ h => by cases h), hb⟩
theorem own_some {w : World} {B n : Nat} {e : TypeId} {v : Value} {xs : List Value} (h : w.ownsRow B e 1 v n xs) (hn : v ≠ .slice none 0 0) : ∃ g, v.ownBlock = some g ∧ g < w.heap.size ∧ B ≤ g := by
  obtain ⟨g, c, rfl, _, _, hg, hB⟩ := own_open h hn
  exact ⟨g, rfl, hg, hB⟩
/-- one row more, in a new block -/
theorem Fm.more {w0 w w' : World} {vs : List VL} {q : VL} (h : Fm w0 w vs) (hb : Below w.heap.size w w') (hq : w'.ownsRow w.heap.size 3 1 q.1 q.2.length (vals .i64 q.2)) (hn : q.1 ≠ .slice none 0 0) : Fm w0 w' (vs ++ [q]) := by
  have h' := h.keep hb
  obtain ⟨g, hg, _, hgB⟩ := own_some hq hn
  have hold : ∀ (i : Nat) (p : VL), vs[i]? = some p → p.1.ownBlock ≠ q.1.ownBlock := fun i p hp e => by
    obtain ⟨g2, hg2, hlt, _⟩ := own_some (h.1 i p hp).1 (h.1 i p hp).2
    rw [hg, hg2] at e
    injection e with e
    omega
  have hc : ∀ (i : Nat) (p : VL), (vs ++ [q])[i]? = some p → vs[i]? = some p ∨ (i = vs.length ∧ p = q) := fun i p hp => by
    rcases Nat.lt_or_ge i vs.length with hi | hi
    · rw [List.getElem?_append_left hi] at hp
      exact .inl hp
    · rw [List.getElem?_append_right hi] at hp
      right
      match hd : i - vs.length, hp with
      | 0, hp => simp [hd] at hp; exact ⟨by omega, hp.symm⟩
      | n + 1, hp => simp [hd] at hp
  refine ⟨fun i p hp => ?_, fun i j p p' hij hp hp' => ?_, h'.2.2⟩
  · rcases hc i p hp with h1 | ⟨_, e1⟩
    · exact h'.1 i p h1
    · rw [e1]; exact ⟨own_base' hq h.2.2.size, hn⟩
  · rcases hc i p hp with h1 | ⟨hi, e1⟩
    · rcases hc j p' hp' with h2 | ⟨_, e2⟩
      · exact h.2.1 i j p p' hij h1 h2
      · rw [e2]; exact hold i p h1
    · rcases hc j p' hp' with h2 | ⟨hj, e2⟩
      · rw [e1]; exact fun e => hold j p' h2 e.symm
      · omega
theorem Fm.bs0 {w0 w : World} {vs : List VL} (h : Fm w0 w vs) : Fm w0 (w.alloc (.cells #[] 3)) (vs ++ [(.slice (some ⟨w.heap.size, 0, none⟩) 0 0, [])]) :=
  h.more (bel_made w _ _) (made_row w _) (by simp)
theorem Fm.bs1 {w0 w : World} {vs : List VL} (h : Fm w0 w vs) (x : Int) : Fm w0 (w.alloc (.cells #[.int .i64 x] 3)) (vs ++ [(.slice (some ⟨w.heap.size, 0, none⟩) 1 1, [x])]) :=
  h.more (bel_made w _ _) ⟨rfl, .inr ⟨w.heap.size, 1, #[.int .i64 x], rfl, Nat.le_refl _, heap_alloc_new _ _, Nat.le_refl _, by decide, rfl, rfl⟩⟩ (by simp)
theorem Fm.cut {w0 w : World} {vs ws : List VL} (h : Fm w0 w (vs ++ ws)) : Fm w0 w vs := by
  have hl : ∀ (i : Nat) (p : VL), vs[i]? = some p → (vs ++ ws)[i]? = some p := fun i p hp => by
    rw [List.getElem?_append_left (List.getElem?_eq_some_iff.1 hp).1]; exact hp
  exact ⟨fun i p hp => h.1 i p (hl i p hp), fun i j p q hij hp hq => h.2.1 i j p q hij (hl i p hp) (hl j q hq), h.2.2⟩
theorem Fm.grow {w0 w w' : World} {vs : List VL} {i : Nat} {v v' : Value} {l l' : List Int} (h : Fm w0 w vs) (hi : vs[i]? = some (v, l)) (hown : w'.ownsRow w0.heap.size 3 1 v' l'.length (vals .i64 l')) (hn : v' ≠ .slice none 0 0) (hg : w.grownBy w' v.ownBlock)
    (hat : v'.ownBlock = v.ownBlock ∨ v'.ownBlock = some w.heap.size) : Fm w0 w' (vs.set i (v', l')) := by
  have hil := (List.getElem?_eq_some_iff.1 hi).1
  have hc : ∀ (j : Nat) (p : VL), (vs.set i (v', l'))[j]? = some p → (j = i ∧ p = (v', l')) ∨ (j ≠ i ∧ vs[j]? = some p) := fun j p hp => by
    by_cases hji : j = i
    · subst hji
      rw [List.getElem?_set_self hil] at hp
      injection hp with hp
      exact .inl ⟨rfl, hp.symm⟩
    · rw [List.getElem?_set_ne (fun e => hji e.symm)] at hp
      exact .inr ⟨hji, hp⟩
  have hne : ∀ (j : Nat) (p : VL), j ≠ i → vs[j]? = some p → p.1.ownBlock ≠ v'.ownBlock := fun j p hji hp e => by
    rcases hat with e2 | e2
    · exact h.2.1 j i p _ hji hp hi (e.trans e2)
    · obtain ⟨g2, hg2, hlt, _⟩ := own_some (h.1 j p hp).1 (h.1 j p hp).2
      rw [e2, hg2] at e
      injection e with e
      omega
  refine ⟨fun j p hp => ?_, fun a b p q hab hp hq => ?_, h.2.2.grown hg h.2.2.size (fun g hg' => own_ge (h.1 i _ hi).1 hg')⟩
  · rcases hc j p hp with ⟨_, rfl⟩ | ⟨hji, hp⟩
    · exact ⟨hown, hn⟩
    · exact ⟨(h.1 j p hp).1.kept hg (.inr (h.2.1 j i p _ hji hp hi)), (h.1 j p hp).2⟩
  · rcases hc a p hp with ⟨ha, rfl⟩ | ⟨ha, hp⟩
    · rcases hc b q hq with ⟨hb, rfl⟩ | ⟨hb, hq⟩
      · omega
      · exact fun e => hne b q hb hq e.symm
    · rcases hc b q hq with ⟨hb, rfl⟩ | ⟨hb, hq⟩
      · exact hne a p ha hp
      · exact h.2.1 a b p q hab hp hq
section
variable {ops : Array Oper} {rest : List Oper} {o : Oper} {a : Act} {K : Act → World → Prop} {Q : Exit → Act → World → Prop} {w w0 w1 : World} {E : Prop} {vs : List VL}
theorem run_fam (ty : TypeId) (i j : Nat) (v u : Value) (l : List Int) (y : Int) (hF : Fm w0 w vs) (hi : vs[i]? = some (v, l)) (hj : vs[j]? = some (u, [y])) (hsz : l.length ≤ 100000) :
    ∃ v' w', (Builtin.append_ #[28, 28] ty #[v, u]).run Tryd.prog w = .ok v' w' ∧ Fm w0 w' (vs.set i (v', l ++ [y])) := by
  obtain ⟨i0, hi0, hz0, hz1, hz2⟩ := info_parts i64info
  have h1 := hF.1 i _ hi
  have h2 := hF.1 j _ hj
  obtain ⟨g, c, hu, hA, _⟩ := own_open h2.1 h2.2
  simp only at hu
  subst hu
  obtain ⟨v', w', hrun, ho, hg, hnil, hat⟩ := run_append_own_at (P := Tryd.prog) w w0.heap.size 28 ty 3 i0 (.int .i64 0) 1 8 Tryd.underlying28 hi0 hz0 hz1 hz2 rfl (by decide) v l.length (vals .i64 l) h1.1 ⟨g, 0, none⟩ 1 c (vals .i64 [y]) rfl (fun t x hx => by
    rw [Addr.add_lit, Nat.zero_add]
    have := hA t x hx
    rwa [Nat.zero_add] at this) (vals_one _ _) (by unfold maxLen; omega) (by omega) hF.2.2.size
  refine ⟨v', w', hrun, hF.grow hi ?_ (fun e => h1.2 (hnil.1 e).1) hg hat⟩
  rw [List.length_append, vals_app]
  exact ho
theorem step_fam (hgd : o.guard = none) (s x : Operand) (ho : o.op = .call { callee := .builtin .append, args := #[s, x], argTypes := #[28, 28] })
    (i j : Nat) (v u : Value) (l : List Int) (y : Int) (hs : a.eval s = v) (hx : a.eval x = u) (hF : Fm w0 w vs) (hi : vs[i]? = some (v, l)) (hj : vs[j]? = some (u, [y])) (hsz : l.length ≤ 100000)
    (h : ∀ v' w', Fm w0 w' (vs.set i (v', l ++ [y])) → K (a.put o.dst v') w') : if Region.wanted o (yielded ops a.tmps) = true then Oper.wp Tryd.prog o a w K Q else E := by
  have hw : Region.wanted o (yielded ops a.tmps) = true := by simp [Region.wanted, hgd]
  rw [if_pos hw]
  obtain ⟨v', w', hrun, h2⟩ := run_fam o.type i j v u l y hF hi hj hsz
  unfold Oper.wp execOp
  simp only [ho, resolve, invoke, builtin, Sem.run_bind, Sem.run_pure, Result.andThen_ok, List.map_toArray, List.map_cons, List.map_nil, hs, hx, hrun]
  exact h v' w' h2
theorem app_fam (hgd : o.guard = none) (s x : Operand) (ho : o.op = .call { callee := .builtin .append, args := #[s, x], argTypes := #[28, 28] })
    (i j : Nat) (v u : Value) (l : List Int) (y : Int) (hs : a.eval s = v) (hx : a.eval x = u) (hF : Fm w0 w vs) (hi : vs[i]? = some (v, l)) (hj : vs[j]? = some (u, [y])) (hsz : l.length ≤ 100000)
    (h : ∀ v' w', Fm w0 w' (vs.set i (v', l ++ [y])) → wpList Tryd.prog ops Q rest (a.put o.dst v') w') : wpList Tryd.prog ops Q (o :: rest) a w := by
  refine wpList_plain hgd fun _ hK => ?_
  obtain ⟨v', w', hrun, h2⟩ := run_fam o.type i j v u l y hF hi hj hsz
  unfold Oper.wp execOp
  simp only [ho, resolve, invoke, builtin, Sem.run_bind, Sem.run_pure, Result.andThen_ok, List.map_toArray, List.map_cons, List.map_nil, hs, hx, hrun]
  exact hK _ _ (h v' w' h2)
end
end Go.Proofs.YthcdolgmifkfdaaDoor.CmpY
