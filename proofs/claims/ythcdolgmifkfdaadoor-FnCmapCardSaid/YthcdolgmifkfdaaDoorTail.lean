/- A region that draws its order and ends in stores into cells that it loads: the loads may be taken first all the same, for the stores wait for them. The elder law (a condition on the world, held through the whole region) with this turn: behind the listed last operations the condition is asked no more. No function of the program in sight. -/
import Derived.Deep.RegionHeld3
namespace Go.Proofs.YthcdolgmifkfdaaDoor.Tail

section
variable {P : Program} {ops : Array Oper} {Q : Exit → Act → World → Prop} {md : Region.Mode} {S : World → Prop} {tl : List Nat}

/-- whatever order is picked from here on; S holds behind every operation that is none of the last ones -/
def wpAnyL (P : Program) (md : Region.Mode) (ops : Array Oper) (Q : Exit → Act → World → Prop) (S : World → Prop) (tl : List Nat) : Nat → Array Bool → Act → World → Prop
  | 0, listed, a, w => Region.ready md ops listed = [] ∧ Q .normal a w
  | fuel + 1, listed, a, w =>
    (Region.ready md ops listed = [] → Q .normal a w) ∧
    ∀ i ∈ Region.ready md ops listed, wpOp P ops Q i (fun a' w' => (tl.contains i = false → S w') ∧ wpAnyL P md ops Q S tl fuel (listed.setIfInBounds i true) a' w') a w

theorem wpAny_of : ∀ (fuel : Nat) (listed : Array Bool) (a : Act) (w : World), wpAnyL P md ops Q S tl fuel listed a w → wpAny P md ops Q fuel listed a w
  | 0, _, _, _, h => h
  | fuel + 1, _, _, _, h => ⟨h.1, fun i hi => wpOp_mono (fun a' w' h' => wpAny_of fuel _ a' w' h'.2) (h.2 i hi)⟩

/-- what has come up waited for nothing that has not -/
def Closed (md : Region.Mode) (ops : Array Oper) (listed : Array Bool) : Prop :=
  ∀ k ok, ops[k]? = some ok → listed.getD k false = true → ∀ e ∈ ok.after, Region.binds md e = true → listed.getD e.on false = true
def closed (md : Region.Mode) (ops : Array Oper) (listed : Array Bool) : Bool :=
  (List.range ops.size).all fun k => !listed.getD k false || match ops[k]? with
    | some ok => ok.after.all fun e => !Region.binds md e || listed.getD e.on false
    | none => true
theorem closed_spec {listed : Array Bool} (h : closed md ops listed = true) : Closed md ops listed := by
  intro k ok hk hl e he hb
  unfold closed at h
  rw [List.all_eq_true] at h
  have hks : k < ops.size := (Array.getElem?_eq_some_iff.1 hk).1
  have h1 := h k (List.mem_range.2 hks)
  rw [hl] at h1
  simp only [hk, Bool.not_true, Bool.false_or] at h1
  have h2 := Array.all_eq_true'.1 h1 e he
  rw [hb] at h2
  simpa using h2
theorem Closed.set_ {listed : Array Bool} {j : Nat} (h : Closed md ops listed) (hj : j ∈ Region.ready md ops listed) : Closed md ops (listed.setIfInBounds j true) := by
  intro k ok hk hl e he hb
  by_cases hkj : j = k
  · subst hkj
    obtain ⟨_, o, ho, hall⟩ := mem_ready.1 hj
    rw [hk] at ho
    injection ho with ho
    subst ho
    exact getD_set_true (hall e he hb)
  · rw [getD_set_ne false hkj] at hl
    exact getD_set_true (h k ok hk hl e he hb)
/-- number j waits for number i, or for one that does -/
def reach (md : Region.Mode) (ops : Array Oper) : Nat → Nat → Nat → Bool
  | 0, _, _ => false
  | f + 1, j, i => match ops[j]? with
    | some oj => oj.after.any fun e => Region.binds md e && (e.on == i || reach md ops f e.on i)
    | none => false
theorem reach_spec {listed : Array Bool} (hc : Closed md ops listed) {i : Nat} : ∀ (f j : Nat), reach md ops f j i = true → (∀ oj, ops[j]? = some oj → ∀ e ∈ oj.after, Region.binds md e = true → listed.getD e.on false = true) → listed.getD i false = true
  | 0, j, h, _ => by cases h
  | f + 1, j, h, hl => by
    unfold reach at h
    cases hj : ops[j]? with
    | none => rw [hj] at h; cases h
    | some oj =>
      rw [hj] at h
      obtain ⟨e, he, hb⟩ := Array.any_eq_true'.1 h
      simp only [Bool.and_eq_true, Bool.or_eq_true, beq_iff_eq] at hb
      have h1 := hl oj hj e he hb.1
      rcases hb.2 with h2 | h2
      · rw [← h2]; exact h1
      · exact reach_spec hc f e.on h2 (fun ok hk e' he' hb' => hc _ ok hk h1 e' he' hb')
/-- each of the last operations waits for number i -/
def waits (md : Region.Mode) (ops : Array Oper) (tl : List Nat) (i : Nat) : Bool := tl.all fun j => reach md ops 4 j i
theorem waits_spec {i j : Nat} {listed : Array Bool} (hc : Closed md ops listed) (h : waits md ops tl i = true) (hj : j ∈ Region.ready md ops listed) (hi : i ∈ Region.ready md ops listed) : tl.contains j = false := by
  cases hcn : tl.contains j
  · rfl
  · exfalso
    unfold waits at h
    rw [List.all_eq_true] at h
    have h1 := h j (by simpa using hcn)
    obtain ⟨_, o, ho, hall⟩ := mem_ready.1 hj
    have h2 := reach_spec hc 4 j h1 (fun oj hoj => by rw [ho] at hoj; injection hoj with e; subst e; exact hall)
    have h3 := (mem_ready.1 hi).1
    rcases Nat.lt_or_ge i listed.size with h' | h'
    · simp [h'] at h2 h3; rw [h2] at h3; cases h3
    · simp [Array.getElem?_eq_none h'] at h2

theorem first {i : Nat} {oi : Oper} {v : Value} (hi : ops[i]? = some oi) (hsel : ∀ (j : Nat) (o : Oper) cs b, ops[j]? = some o → o.op ≠ .select cs b)
    (hQ : ∀ c a w, Q (.panic c) (a.put oi.dst v) w → Q (.panic c) a w) (hwt : waits md ops tl i = true) :
    ∀ (fuel : Nat) (listed : Array Bool) (a : Act) (w : World), Closed md ops listed →
      (∀ j oj, ops[j]? = some oj → j ≠ i → listed.getD j true = false → (∀ e ∈ oj.after, Region.binds md e = true → e.on ≠ i) → oi.apart ops oj = true) →
      i ∈ Region.ready md ops listed → YieldsIf P ops S oi v a → S w →
      wpAnyL P md ops Q S tl fuel (listed.setIfInBounds i true) (a.put oi.dst v) w → wpAnyL P md ops Q S tl (fuel + 1) listed a w := by
  intro fuel
  induction fuel with
  | zero =>
    intro listed a w _ _ hr hy hS H
    refine ⟨fun h => (by rw [h] at hr; cases hr), fun j hj => ?_⟩
    by_cases hji : j = i
    · subst hji; exact hy.wpOp hi hS ⟨fun _ => hS, H⟩
    · have := ready_mono hj hji
      rw [H.1] at this
      cases this
  | succ fuel ih =>
    intro listed a w hcl hfree hr hy hS H
    refine ⟨fun h => (by rw [h] at hr; cases hr), fun j hj => ?_⟩
    by_cases hji : j = i
    · subst hji; exact hy.wpOp hi hS ⟨fun _ => hS, H⟩
    · have h1 := H.2 j (ready_mono hj hji)
      obtain ⟨hjun, oj, hoj, hall⟩ := mem_ready.1 hj
      have hnot : ∀ e ∈ oj.after, Region.binds md e = true → e.on ≠ i := fun e he hb heq => by
        have h1 := hall e he hb
        have h0 := (mem_ready.1 hr).1
        rw [heq] at h1
        rcases Nat.lt_or_ge i listed.size with h' | h'
        · simp [h'] at h0 h1; rw [h0] at h1; cases h1
        · simp [Array.getElem?_eq_none h'] at h1
      have hnt := waits_spec hcl hwt hj hr
      have h2 := wpOp_putIf hoj (hfree j oj hoj hji hjun hnot) (fun cs b => hsel i oi cs b hi) (fun cs b => hsel j oj cs b hoj) hQ hy h1
      have hfree' : ∀ k ok, ops[k]? = some ok → k ≠ i → (listed.setIfInBounds j true).getD k true = false →
          (∀ e ∈ ok.after, Region.binds md e = true → e.on ≠ i) → oi.apart ops ok = true := fun k ok hk hki hun hno => by
        refine hfree k ok hk hki ?_ hno
        by_cases hjk : j = k
        · subst hjk; exact hjun
        · rw [getD_set_ne true hjk] at hun; exact hun
      refine wpOp_mono (fun a' w' h3 => ⟨h3.2.1, ih (listed.setIfInBounds j true) a' w' (hcl.set_ hj) hfree' (ready_mono hr (Ne.symm hji)) h3.1 (h3.2.1 hnt) ?_⟩) h2
      rw [Array.setIfInBounds_comm _ _ hji]
      exact h3.2.2

theorem take {i : Nat} {oi : Oper} {v : Value} {fuel : Nat} {listed : Array Bool} {a : Act} {w : World} (hi : ops[i]? = some oi)
    (hs : Region.noSelect ops = true) (hf : Region.free md ops listed i = true) (hr : (Region.ready md ops listed).contains i = true) (hwt : waits md ops tl i = true) (hcl : closed md ops listed = true)
    (hQ : ∀ c a w, Q (.panic c) (a.put oi.dst v) w → Q (.panic c) a w) (hy : YieldsIf P ops S oi v a) (hS : S w)
    (h : wpAnyL P md ops Q S tl fuel (listed.setIfInBounds i true) (a.put oi.dst v) w) : wpAnyL P md ops Q S tl (fuel + 1) listed a w :=
  first hi (Region.noSelect_spec hs) hQ hwt fuel listed a w (closed_spec hcl) (Region.free_spec hi hf) (by simpa using hr) hy hS h

def AllReadyL (P : Program) (md : Region.Mode) (ops : Array Oper) (Q : Exit → Act → World → Prop) (S : World → Prop) (tl : List Nat) (fuel : Nat) (listed : Array Bool) (a : Act) (w : World) (rs : List Nat) : Prop :=
  ∀ i ∈ rs, wpOp P ops Q i (fun a' w' => (tl.contains i = false → S w') ∧ wpAnyL P md ops Q S tl fuel (listed.setIfInBounds i true) a' w') a w
theorem AllReadyL.nil {fuel : Nat} {listed : Array Bool} {a : Act} {w : World} : AllReadyL P md ops Q S tl fuel listed a w [] := fun _ h => by cases h
/-- a step: behind it S is shown anew -/
theorem AllReadyL.cons {fuel : Nat} {listed : Array Bool} {a : Act} {w : World} {i : Nat} {o : Oper} {rs : List Nat} (ho : ops[i]? = some o)
    (h : ∀ K' : Act → World → Prop, Shut (∀ a w, S w → (S w → wpAnyL P md ops Q S tl fuel (listed.setIfInBounds i true) a w) → K' a w) → if Region.wanted o (yielded ops a.tmps) = true then Oper.wp P o a w K' Q else K' (a.put o.dst undef) w)
    (hs : AllReadyL P md ops Q S tl fuel listed a w rs) : AllReadyL P md ops Q S tl fuel listed a w (i :: rs) := fun j hj => by
  rcases List.mem_cons.1 hj with rfl | hj
  · exact wpOp_step ho (fun K' hK => h K' (fun a w hS hW => hK a w ⟨fun _ => hS, hW hS⟩))
  · exact hs j hj
/-- a last step: S is asked no more -/
theorem AllReadyL.last {fuel : Nat} {listed : Array Bool} {a : Act} {w : World} {i : Nat} {o : Oper} {rs : List Nat} (ho : ops[i]? = some o) (ht : tl.contains i = true)
    (h : ∀ K' : Act → World → Prop, Shut (∀ a w, wpAnyL P md ops Q S tl fuel (listed.setIfInBounds i true) a w → K' a w) → if Region.wanted o (yielded ops a.tmps) = true then Oper.wp P o a w K' Q else K' (a.put o.dst undef) w)
    (hs : AllReadyL P md ops Q S tl fuel listed a w rs) : AllReadyL P md ops Q S tl fuel listed a w (i :: rs) := fun j hj => by
  rcases List.mem_cons.1 hj with rfl | hj
  · exact wpOp_step ho (fun K' hK => h K' (fun a w hW => hK a w ⟨fun h' => (by rw [ht] at h'; cases h'), hW⟩))
  · exact hs j hj
theorem ready {rs : List Nat} {fuel : Nat} {listed : Array Bool} {a : Act} {w : World} (hr : Region.ready md ops listed = rs) (hne : rs ≠ [])
    (h : AllReadyL P md ops Q S tl fuel listed a w rs) : wpAnyL P md ops Q S tl (fuel + 1) listed a w := ⟨fun h0 => absurd (hr ▸ h0) hne, hr ▸ h⟩
theorem done {listed : Array Bool} {a : Act} {w : World} (hr : Region.ready md ops listed = []) (h : Q .normal a w) :
    ∀ fuel, wpAnyL P md ops Q S tl fuel listed a w
  | 0 => ⟨hr, h⟩
  | _ + 1 => ⟨fun _ => h, by rw [hr]; simp⟩
theorem start {id : Nat} {a : Act} {w : World} (hm : P.follows .mixedOrders = true) (hS : S w.drew)
    (h : S w.drew → wpAnyL P .any ops Q S tl ops.size (Array.replicate ops.size false) a w.drew) : (Code.region id ops true).wp P Q a w :=
  wp_region_any hm (wpAny_of _ _ _ _ (h hS))
end
end Go.Proofs.YthcdolgmifkfdaaDoor.Tail
