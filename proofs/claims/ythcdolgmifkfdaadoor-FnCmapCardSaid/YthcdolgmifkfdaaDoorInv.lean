/- A region that draws its order: operations that make memory, in whatever order they come. Of each it is told what its value is good for; each is walked once, and no order is told from another. No function of the program in sight. -/
import Derived.Test.YthcdolgmifkfdaaDoorTail
import Derived.Below
namespace Go.Proofs.YthcdolgmifkfdaaDoor.Inv
open Go.ChangeShapes Go.WideShapes Go.RowKit
open Tail

/-- the frame is as it was, outside of the slots ds -/
def Fr (a0 : Act) (ds : List Nat) (a : Act) : Prop := a.defers = a0.defers ∧ a.tmps.size = a0.tmps.size ∧ ∀ s, ds.contains s = false → a.tmps[s]? = a0.tmps[s]?
theorem Fr.refl (a : Act) (ds : List Nat) : Fr a ds a := ⟨rfl, rfl, fun _ _ => rfl⟩
theorem Fr.put {a0 a : Act} {ds : List Nat} (h : Fr a0 ds a) {d : Nat} (hd : ds.contains d = true) (v : Value) : Fr a0 ds (a.put (some d) v) := by
  refine ⟨h.1, by simpa [Act.put] using h.2.1, fun s hs => ?_⟩
  have hne : d ≠ s := fun e => by rw [e, hs] at hd; cases hd
  rw [← h.2.2 s hs]
  simp only [Act.put]
  exact Array.getElem?_setIfInBounds_ne hne
theorem Fr.eval {a0 a : Act} {ds : List Nat} (h : Fr a0 ds a) {s : Nat} (hs : ds.contains s = false) : a.eval (.tmp s) = a0.eval (.tmp s) := by
  simp only [Act.eval, Array.getD_eq_getD_getElem?, h.2.2 s hs]
theorem eval_of {a : Act} {s : Nat} {v : Value} (h : a.tmps[s]? = some v) : a.eval (.tmp s) = v := by
  simp only [Act.eval, Array.getD_eq_getD_getElem?, h, Option.getD_some]
/-- the frame, told by what its slots hold -/
theorem Fr.eq {a0 : Act} : ∀ (l : List (Nat × Value)) (ds : List Nat) (a : Act), (∀ s, ds.contains s = true → (l.map (·.1)).contains s = true) → Fr a0 ds a → (∀ p ∈ l, a.tmps[p.1]? = some p.2) →
    a = l.foldl (fun a p => a.put (some p.1) p.2) a0 := by
  intro l ds a hds h hl
  have key : ∀ (l : List (Nat × Value)) (b : Act), (∀ p ∈ l, a.tmps[p.1]? = some p.2) → b.defers = a.defers → b.tmps.size = a.tmps.size →
      (l.foldl (fun a p => a.put (some p.1) p.2) b).defers = a.defers ∧ (l.foldl (fun a p => a.put (some p.1) p.2) b).tmps.size = a.tmps.size ∧
      ∀ s, (b.tmps[s]? = a.tmps[s]? ∨ (l.map (·.1)).contains s = true) → (l.foldl (fun a p => a.put (some p.1) p.2) b).tmps[s]? = a.tmps[s]? := by
    intro l
    induction l with
    | nil => intro b _ h1 h2; exact ⟨h1, h2, fun s hs => hs.elim id (fun h => by simp at h)⟩
    | cons p l ih =>
      intro b hl h1 h2
      obtain ⟨i1, i2, i3⟩ := ih (b.put (some p.1) p.2) (fun q hq => hl q (List.mem_cons_of_mem _ hq)) (by simpa [Act.put] using h1) (by simpa [Act.put] using h2)
      refine ⟨i1, i2, fun s hs => i3 s ?_⟩
      have hp := hl p List.mem_cons_self
      by_cases hsp : p.1 = s
      · subst hsp
        refine .inl ?_
        have hlt : p.1 < a.tmps.size := (Array.getElem?_eq_some_iff.1 hp).1
        rw [hp]
        simp only [Act.put]
        rw [Array.getElem?_setIfInBounds_self_of_lt (by omega)]
      · rcases hs with hs | hs
        · refine .inl ?_
          simp only [Act.put]
          rw [Array.getElem?_setIfInBounds_ne hsp]
          exact hs
        · refine .inr ?_
          rw [List.map_cons, List.contains_cons] at hs
          simpa [show (s == p.1) = false by simpa using fun e => hsp e.symm] using hs
  obtain ⟨k1, k2, k3⟩ := key l a0 hl h.1.symm h.2.1.symm
  have ht : (l.foldl (fun a p => a.put (some p.1) p.2) a0).tmps = a.tmps := by
    apply Array.ext_getElem?
    intro s
    refine k3 s ?_
    cases hc : ds.contains s
    · exact .inl (h.2.2 s hc).symm
    · exact .inr (hds s hc)
  cases hf : l.foldl (fun a p => a.put (some p.1) p.2) a0 with
  | mk t d =>
    rw [hf] at ht k1
    cases a
    simp only at ht k1
    rw [ht, k1]

theorem foldl_put : ∀ (l : List (Nat × Value)) (a : Act), l.foldl (fun a p => a.put (some p.1) p.2) a = ⟨l.foldl (fun t p => t.setIfInBounds p.1 p.2) a.tmps, a.defers⟩
  | [], _ => rfl
  | p :: l, a => by
    rw [List.foldl_cons, foldl_put l]
    rfl
/-- the frame, told by what its slots hold: its slots alone -/
theorem Fr.eqt {a0 : Act} (l : List (Nat × Value)) (ds : List Nat) (a : Act) (hds : ∀ s, ds.contains s = true → (l.map (·.1)).contains s = true) (h : Fr a0 ds a) (hl : ∀ p ∈ l, a.tmps[p.1]? = some p.2) :
    a = ⟨l.foldl (fun t p => t.setIfInBounds p.1 p.2) a0.tmps, a0.defers⟩ := (Fr.eq l ds a hds h hl).trans (foldl_put l a0)

/-- number i's value stands in its slot, and is good -/
def Dn (T : List (Nat × Nat)) (F : Nat → Value → World → Prop) (i : Nat) (a : Act) (w : World) : Prop := ∀ d, (i, d) ∈ T → ∃ v, a.tmps[d]? = some v ∧ F i v w
/-- number i waits for number j -/
def waitsOn (md : Region.Mode) (ops : Array Oper) (i j : Nat) : Bool := match ops[i]? with
  | some o => o.after.any fun e => Region.binds md e && e.on == j
  | none => false

section
variable {P : Program} {ops : Array Oper} {Q : Exit → Act → World → Prop} {md : Region.Mode} {tl : List Nat} {T : List (Nat × Nat)} {F : Nat → Value → World → Prop} {W : World → Prop} {a0 : Act}

def StepI (P : Program) (md : Region.Mode) (ops : Array Oper) (T : List (Nat × Nat)) (F : Nat → Value → World → Prop) (W : World → Prop) (a0 : Act) (i : Nat) : Prop :=
  ∀ a w, Fr a0 (T.map (·.2)) a → W w → (∀ j, waitsOn md ops i j = true → Dn T F j a w) →
    ∃ o v w', ops[i]? = some o ∧ o.guard = none ∧ (execOp a.eval o).run P w = .ok (.value v) w' ∧ Below w.heap.size w w' ∧ F i v w'

def good (md : Region.Mode) (ops : Array Oper) (tl : List Nat) (T : List (Nat × Nat)) (listed0 : Array Bool) (n : Nat) : Bool :=
  (T.all fun p => (((ops[p.1]?).bind (·.dst)) == some p.2) && decide (p.2 < n) && tl.all fun j => reach md ops ops.size j p.1) &&
  (T.all fun p => T.all fun q => p.1 == q.1 || p.2 != q.2) &&
  ((List.range ops.size).all fun k => listed0.getD k false || (T.map (·.1)).contains k || tl.contains k) &&
  (T.all fun p => tl.all fun j => p.1 != j) &&
  ((List.range ops.size).all fun k => match ops[k]? with | some o => o.after.all fun e => !Region.binds md e || decide (e.on < k) | none => true) &&
  (T.all fun p => !listed0.getD p.1 true) && decide (T.map (·.1)).Nodup

theorem count_down (rs : List Nat) (hn : rs.Nodup) (f g : Nat → Bool) (i : Nat) (hi : i ∈ rs) (h0 : f i = false) (h1 : g i = true) (he : ∀ k, k ≠ i → g k = f k) :
    (rs.filter fun k => !f k).length = (rs.filter fun k => !g k).length + 1 := by
  induction rs with
  | nil => cases hi
  | cons r rs ih =>
    rw [List.nodup_cons] at hn
    by_cases hr : r = i
    · subst hr
      have hsame : (rs.filter fun k => !f k) = rs.filter fun k => !g k := by
        apply List.filter_congr
        intro k hk
        rw [he k (fun e => hn.1 (e ▸ hk))]
      simp [h0, h1, hsame]
    · have := ih hn.2 ((List.mem_cons.1 hi).resolve_left (fun e => hr e.symm))
      rw [List.filter_cons, List.filter_cons, he r hr]
      cases f r <;> simp <;> omega

theorem ready_some {listed : Array Bool} (hlow : ((List.range ops.size).all fun k => match ops[k]? with | some o => o.after.all fun e => !Region.binds md e || decide (e.on < k) | none => true) = true) (hsz : listed.size = ops.size) :
    ∀ n k, k ≤ n → k < ops.size → listed.getD k false = false → Region.ready md ops listed ≠ [] := by
  intro n
  induction n with
  | zero =>
    intro k hk hlt hu hr
    obtain rfl : k = 0 := by omega
    have : 0 ∈ Region.ready md ops listed := by
      rw [mem_ready]
      refine ⟨?_, ops[0], Array.getElem?_eq_getElem hlt, fun e he hb => ?_⟩
      · have h' : 0 < listed.size := by omega
        simp [h'] at hu ⊢; exact hu
      · rw [List.all_eq_true] at hlow
        have h1 := hlow 0 (List.mem_range.2 hlt)
        simp only [Array.getElem?_eq_getElem hlt] at h1
        have h2 := Array.all_eq_true'.1 h1 e he
        rw [hb] at h2
        simp at h2
    rw [hr] at this
    cases this
  | succ n ih =>
    intro k hk hlt hu hr
    by_cases hall : ∀ e ∈ ops[k].after, Region.binds md e = true → listed.getD e.on false = true
    · have : k ∈ Region.ready md ops listed := by
        rw [mem_ready]
        refine ⟨?_, ops[k], Array.getElem?_eq_getElem hlt, hall⟩
        have h' : k < listed.size := by omega
        simp [h'] at hu ⊢; exact hu
      rw [hr] at this
      cases this
    · have ⟨e, he⟩ := Classical.not_forall.1 hall
      obtain ⟨he1, he⟩ := Classical.not_imp.1 he
      obtain ⟨hb, hne⟩ := Classical.not_imp.1 he
      rw [List.all_eq_true] at hlow
      have h1 := hlow k (List.mem_range.2 hlt)
      simp only [Array.getElem?_eq_getElem hlt] at h1
      have h2 := Array.all_eq_true'.1 h1 e he1
      rw [hb] at h2
      simp at h2
      exact ih e.on (by omega) (by omega) (by simpa using hne) hr

theorem inv {fuel : Nat} {listed0 Lf : Array Bool} (hg : good md ops tl T listed0 a0.tmps.size = true) (hsz : listed0.size = ops.size) (hcl : closed md ops listed0 = true) (hLf : Lf = (T.map (·.1)).foldl (fun l i => l.setIfInBounds i true) listed0)
    (hW : ∀ w w', Below w.heap.size w w' → W w → W w') (hF : ∀ w w', Below w.heap.size w w' → ∀ j u, F j u w → F j u w')
    (hstep : ∀ i ∈ T.map (·.1), StepI P md ops T F W a0 i)
    (hend : ∀ a w, Fr a0 (T.map (·.2)) a → W w → (∀ i d, (i, d) ∈ T → ∃ v, a.tmps[d]? = some v ∧ F i v w) → wpAnyL P md ops Q (fun _ => True) tl fuel Lf a w)
    (w : World) (hw : W w) : wpAnyL P md ops Q (fun _ => True) tl (fuel + T.length) listed0 a0 w := by
  unfold good at hg
  simp only [Bool.and_eq_true] at hg
  obtain ⟨⟨⟨⟨⟨⟨g1, g2⟩, g3⟩, g4⟩, g5⟩, g6⟩, g7⟩ := hg
  have hnd : (T.map (·.1)).Nodup := by simpa using g7
  have key : ∀ (n : Nat) (listed : Array Bool) (a : Act) (w : World), ((T.map (·.1)).filter fun k => !listed.getD k false).length = n → listed.size = ops.size → Closed md ops listed →
      (∀ k, (T.map (·.1)).contains k = false → listed[k]? = listed0[k]?) → Fr a0 (T.map (·.2)) a → W w → (∀ i, listed.getD i false = true → Dn T F i a w) → wpAnyL P md ops Q (fun _ => True) tl (fuel + n) listed a w := by
    intro n
    induction n with
    | zero =>
      intro listed a w hn hs _ hout hf hw hD
      have hall : ∀ k ∈ T.map (·.1), listed.getD k false = true := by
        intro k hk
        have h0 := List.eq_nil_of_length_eq_zero hn
        rw [List.filter_eq_nil_iff] at h0
        simpa using h0 k hk
      have hl : listed = Lf := by
        rw [hLf]
        have fold : ∀ (rs : List Nat) (l : Array Bool), (rs.foldl (fun l i => l.setIfInBounds i true) l).size = l.size ∧ ∀ k : Nat, (rs.foldl (fun l i => l.setIfInBounds i true) l)[k]? = if rs.contains k = true ∧ k < l.size then some true else l[k]? := by
          intro rs
          induction rs with
          | nil => intro l; exact ⟨rfl, fun k => by simp⟩
          | cons r rs ih =>
            intro l
            obtain ⟨i1, i2⟩ := ih (l.setIfInBounds r true)
            rw [List.foldl_cons]
            refine ⟨by rw [i1]; simp, fun k => ?_⟩
            rw [i2 k, Array.size_setIfInBounds, List.contains_cons]
            by_cases hk : k < l.size
            · by_cases hrk : r = k
              · subst hrk
                simp [hk]
              · have : (k == r) = false := by simpa using fun e => hrk e.symm
                rw [this, Bool.false_or, Array.getElem?_setIfInBounds_ne hrk]
            · have : l[k]? = none := Array.getElem?_eq_none (by omega)
              simp [hk]
        apply Array.ext_getElem?
        intro k
        rw [(fold _ _).2 k]
        cases hc : (T.map (·.1)).contains k
        · simp only [Bool.false_eq_true, false_and, if_false]
          exact hout k hc
        · have h1 := hall k (by simpa using hc)
          by_cases hk : k < listed0.size
          · rw [if_pos ⟨rfl, hk⟩]
            have hk2 : k < listed.size := by omega
            simp [hk2] at h1 ⊢
            exact h1
          · exfalso
            have : listed[k]? = none := Array.getElem?_eq_none (by omega)
            simp [this] at h1
      rw [hl]
      exact hend a w hf hw (fun i d hd => hD i (hall i (List.mem_map.2 ⟨_, hd, rfl⟩)) d hd)
    | succ n ih =>
      intro listed a w hn hs hcl hout hf hw hD
      have hex : ∃ k ∈ T.map (·.1), listed.getD k false = false := by
        cases hfl : (T.map (·.1)).filter fun k => !listed.getD k false with
        | nil => rw [hfl] at hn; cases hn
        | cons k r =>
          have hm : k ∈ (T.map (·.1)).filter fun k => !listed.getD k false := by rw [hfl]; exact List.mem_cons_self
          rw [List.mem_filter] at hm
          exact ⟨k, hm.1, by simpa using hm.2⟩
      obtain ⟨k, hk, hku⟩ := hex
      have hklt : k < ops.size := by
        obtain ⟨p, hp, rfl⟩ := List.mem_map.1 hk
        rw [List.all_eq_true] at g1
        have h1 := g1 p hp
        simp only [Bool.and_eq_true] at h1
        rcases Nat.lt_or_ge p.1 ops.size with h | h
        · exact h
        · rw [Array.getElem?_eq_none h] at h1
          simp at h1
      have hT : ∀ i, i ∈ Region.ready md ops listed → ∃ d, (i, d) ∈ T := by
        intro i hi
        have hi' := mem_ready.1 hi
        obtain ⟨hu, o, ho, hdeps⟩ := hi'
        have hlt : i < ops.size := (Array.getElem?_eq_some_iff.1 ho).1
        rw [List.all_eq_true] at g3
        have h3 := g3 i (List.mem_range.2 hlt)
        simp only [Bool.or_eq_true] at h3
        by_cases hc : (T.map (·.1)).contains i = true
        · obtain ⟨p, hp, e⟩ := List.mem_map.1 (show i ∈ T.map (·.1) by simpa using hc)
          exact ⟨p.2, by rw [← e]; exact hp⟩
        · exfalso
          have hc' : (T.map (·.1)).contains i = false := by simpa using hc
          have hsame := hout i hc'
          rcases h3 with (h3 | h3) | h3
          · have hl0 : i < listed0.size := by omega
            have hl1 : i < listed.size := by omega
            simp [hl0, hl1] at h3 hu hsame
            rw [hsame, h3] at hu
            cases hu
          · exact hc h3
          · obtain ⟨p, hp, e⟩ := List.mem_map.1 hk
            rw [List.all_eq_true] at g1
            have h1 := g1 p hp
            simp only [Bool.and_eq_true] at h1
            have h2 := h1.2
            rw [List.all_eq_true] at h2
            have h4 := h2 i (by simpa using h3)
            rw [e] at h4
            have := reach_spec hcl ops.size i h4 (fun oj hoj => by rw [ho] at hoj; injection hoj with e'; subst e'; exact hdeps)
            rw [this] at hku
            cases hku
      refine ⟨fun h => absurd h (ready_some g5 hs k k (Nat.le_refl _) hklt hku), fun i hi => ?_⟩
      obtain ⟨d, hd⟩ := hT i hi
      have him : i ∈ T.map (·.1) := List.mem_map.2 ⟨_, hd, rfl⟩
      have hi' := mem_ready.1 hi
      obtain ⟨hu, o, ho, hdeps⟩ := hi'
      obtain ⟨o', v, w', ho', hgd, hrun, hb, hFi⟩ := hstep i him a w hf hw (fun j hj => by
        unfold waitsOn at hj
        rw [ho] at hj
        obtain ⟨e, he, hb⟩ := Array.any_eq_true'.1 hj
        simp only [Bool.and_eq_true, beq_iff_eq] at hb
        rw [← hb.2]
        exact hD e.on (hdeps e he hb.1))
      obtain rfl : o' = o := by rw [ho] at ho'; injection ho' with e; exact e.symm
      rw [List.all_eq_true] at g1
      have h1 := g1 _ hd
      simp only [Bool.and_eq_true, beq_iff_eq, decide_eq_true_eq] at h1
      have hdst : o'.dst = some d := by
        have := h1.1.1
        rw [ho] at this
        simpa using this
      have hil : i < listed.size := by
        have := (Array.getElem?_eq_some_iff.1 ho).1
        omega
      have huf : listed.getD i false = false := by simp [hil] at hu ⊢; exact hu
      have hK : wpAnyL P md ops Q (fun _ => True) tl (fuel + n) (listed.setIfInBounds i true) (a.put o'.dst v) w' := by
        refine ih _ _ _ ?_ (by simpa using hs) (hcl.set_ hi) (fun k hk => ?_) ?_ (hW w w' hb hw) (fun j hj d' hd' => ?_)
        · have := count_down (T.map (·.1)) hnd (fun k => listed.getD k false) (fun k => (listed.setIfInBounds i true).getD k false) i him huf (by simp [hil]) (fun k hk => getD_set_ne false (fun e => hk e.symm))
          omega
        · rw [Array.getElem?_setIfInBounds_ne (fun e => by rw [← e] at hk; rw [show (T.map (·.1)).contains i = true by simpa using him] at hk; cases hk)]
          exact hout k hk
        · rw [hdst]
          exact hf.put (by simpa using ⟨_, hd⟩) v
        · rw [hdst]
          by_cases hji : j = i
          · subst hji
            have hdd : d' = d := by
              have h1' := g1 _ hd'
              simp only [Bool.and_eq_true, beq_iff_eq, decide_eq_true_eq] at h1'
              have := h1'.1.1
              rw [ho] at this
              simp only [Option.bind_some] at this
              rw [hdst] at this
              injection this with e
              exact e.symm
            subst hdd
            refine ⟨v, ?_, hFi⟩
            simp only [Act.put]
            rw [Array.getElem?_setIfInBounds_self_of_lt (by rw [hf.2.1]; exact h1.1.2)]
          · rw [getD_set_ne false (fun e => hji e.symm)] at hj
            obtain ⟨u, hu1, hu2⟩ := hD j hj d' hd'
            refine ⟨u, ?_, hF w w' hb j u hu2⟩
            rw [List.all_eq_true] at g2
            have h2 := g2 _ hd
            rw [List.all_eq_true] at h2
            have h3 := h2 _ hd'
            simp only [Bool.or_eq_true, beq_iff_eq, bne_iff_ne] at h3
            have hne : d ≠ d' := h3.resolve_left (fun e => hji e.symm)
            simp only [Act.put]
            rw [Array.getElem?_setIfInBounds_ne hne]
            exact hu1
      refine wpOp_step ho (fun K' hK' => ?_)
      have hw' : Region.wanted o' (yielded ops a.tmps) = true := by simp [Region.wanted, hgd]
      rw [if_pos hw']
      unfold Oper.wp
      rw [hrun, Oper.upon_value]
      exact hK' _ _ ⟨fun _ => trivial, hK⟩
  refine key T.length listed0 a0 w ?_ hsz (closed_spec hcl) (fun _ _ => rfl) (Fr.refl _ _) hw (fun i hi d hd => ?_)
  · rw [List.filter_eq_self.2, List.length_map]
    intro k hk
    obtain ⟨p, hp, rfl⟩ := List.mem_map.1 hk
    rw [List.all_eq_true] at g6
    have h6 := g6 p hp
    have : p.1 < listed0.size := by
      rw [List.all_eq_true] at g1
      have h1 := g1 p hp
      simp only [Bool.and_eq_true] at h1
      rcases Nat.lt_or_ge p.1 ops.size with h | h
      · omega
      · rw [Array.getElem?_eq_none h] at h1
        simp at h1
    simp [this] at h6 ⊢
    exact h6
  · exfalso
    rw [List.all_eq_true] at g6
    have h6 := g6 _ hd
    rcases Nat.lt_or_ge i listed0.size with h | h
    · simp [h] at h6 hi
      rw [hi] at h6
      cases h6
    · simp [Array.getElem?_eq_none h] at hi
end
end Go.Proofs.YthcdolgmifkfdaaDoor.Inv
