/- Several texts in one, in the order of their building: A region that draws its order: operations that make memory, in whatever order they come. Of each it is told what its value is good for; each is walked once, and no order is told from another. No function of the program in sight. · The making of a font: its glyphs. · Contract of the making of a font out of numbers (no letters). -/
import Derived.Test.YtdeaodgcdacleaaDoorTail
import Derived.Below
import Derived.Test.YtdeaodgcdacleaaDoorMadK
import Derived.Deep.RegionHeld3
import Derived.Deep.CutBlock
import Derived.Deep.QuietTactic
import Derived.BigQuiet
import Derived.Test.YtdeaodgcdacleaaDoorGlyO
import Derived.Carry
namespace Go.Proofs.YtdeaodgcdacleaaDoor.Inv
open Go.ChangeShapes Go.WideShapes Go.RowKit
open Tail

/-- the frame is as it was, outside of the slots ds -/
def Fr (a0 : Act) (ds : List Nat) (a : Act) : Prop := a.defers = a0.defers ∧ a.tmps.size = a0.tmps.size ∧ ∀ s, ds.contains s = false → a.tmps[s]? = a0.tmps[s]?
theorem Fr.refl (a : Act) (ds : List Nat) : Fr a ds a := ⟨rfl, rfl, fun _ _ => rfl⟩
theorem Fr.put {a0 a : Act} {ds : List Nat} (h : Fr a0 ds a) {d : Nat} (hd : ds.contains d = true) (v : Value) : Fr a0 ds (a.put (some d) v) := by
  refine ⟨h.1, by simpa [Act.put] using h.2.1, fun s hs => ?_⟩
  have hne : d ≠ s := fun e => by rw [e, hs] at hd; cases hd
  rw [← h.2.2 s hs]
  simp only [Act.put]
  exact Array.getElem?_setIfInBounds_ne hne
theorem Fr.eval {a0 a : Act} {ds : List Nat} (h : Fr a0 ds a) {s : Nat} (hs : ds.contains s = false) : a.eval (.tmp s) = a0.eval (.tmp s) := by
  simp only [Act.eval, Array.getD_eq_getD_getElem?, h.2.2 s hs]
theorem eval_of {a : Act} {s : Nat} {v : Value} (h : a.tmps[s]? = some v) : a.eval (.tmp s) = v := by
  simp only [Act.eval, Array.getD_eq_getD_getElem?, h, Option.getD_some]
/-- the frame, told by what its slots hold -/
theorem Fr.eq {a0 : Act} : ∀ (l : List (Nat × Value)) (ds : List Nat) (a : Act), (∀ s, ds.contains s = true → (l.map (·.1)).contains s = true) → Fr a0 ds a → (∀ p ∈ l, a.tmps[p.1]? = some p.2) →
    a = l.foldl (fun a p => a.put (some p.1) p.2) a0 := by
  intro l ds a hds h hl
  have key : ∀ (l : List (Nat × Value)) (b : Act), (∀ p ∈ l, a.tmps[p.1]? = some p.2) → b.defers = a.defers → b.tmps.size = a.tmps.size →
      (l.foldl (fun a p => a.put (some p.1) p.2) b).defers = a.defers ∧ (l.foldl (fun a p => a.put (some p.1) p.2) b).tmps.size = a.tmps.size ∧
      ∀ s, (b.tmps[s]? = a.tmps[s]? ∨ (l.map (·.1)).contains s = true) → (l.foldl (fun a p => a.put (some p.1) p.2) b).tmps[s]? = a.tmps[s]? := by
    intro l
    induction l with
    | nil => intro b _ h1 h2; exact ⟨h1, h2, fun s hs => hs.elim id (fun h => by simp at h)⟩
    | cons p l ih =>
      intro b hl h1 h2
      obtain ⟨i1, i2, i3⟩ := ih (b.put (some p.1) p.2) (fun q hq => hl q (List.mem_cons_of_mem _ hq)) (by simpa [Act.put] using h1) (by simpa [Act.put] using h2)
      refine ⟨i1, i2, fun s hs => i3 s ?_⟩
      have hp := hl p List.mem_cons_self
      by_cases hsp : p.1 = s
      · subst hsp
        refine .inl ?_
        have hlt : p.1 < a.tmps.size := (Array.getElem?_eq_some_iff.1 hp).1
        rw [hp]
        simp only [Act.put]
        rw [Array.getElem?_setIfInBounds_self_of_lt (by omega)]
      · rcases hs with hs | hs
        · refine .inl ?_
          simp only [Act.put]
          rw [Array.getElem?_setIfInBounds_ne hsp]
          exact hs
        · refine .inr ?_
          rw [List.map_cons, List.contains_cons] at hs
          simpa [show (s == p.1) = false by simpa using fun e => hsp e.symm] using hs
  obtain ⟨k1, k2, k3⟩ := key l a0 hl h.1.symm h.2.1.symm
  have ht : (l.foldl (fun a p => a.put (some p.1) p.2) a0).tmps = a.tmps := by
    apply Array.ext_getElem?
    intro s
    refine k3 s ?_
    cases hc : ds.contains s
    · exact .inl (h.2.2 s hc).symm
    · exact .inr (hds s hc)
  cases hf : l.foldl (fun a p => a.put (some p.1) p.2) a0 with
  | mk t d =>
    rw [hf] at ht k1
    cases a
    simp only at ht k1
    rw [ht, k1]

theorem foldl_put : ∀ (l : List (Nat × Value)) (a : Act), l.foldl (fun a p => a.put (some p.1) p.2) a = ⟨l.foldl (fun t p => t.setIfInBounds p.1 p.2) a.tmps, a.defers⟩
  | [], _ => rfl
  | p :: l, a => by
    rw [List.foldl_cons, foldl_put l]
    rfl
/-- the frame, told by what its slots hold: its slots alone -/
theorem Fr.eqt {a0 : Act} (l : List (Nat × Value)) (ds : List Nat) (a : Act) (hds : ∀ s, ds.contains s = true → (l.map (·.1)).contains s = true) (h : Fr a0 ds a) (hl : ∀ p ∈ l, a.tmps[p.1]? = some p.2) :
    a = ⟨l.foldl (fun t p => t.setIfInBounds p.1 p.2) a0.tmps, a0.defers⟩ := (Fr.eq l ds a hds h hl).trans (foldl_put l a0)

/-- number i's value stands in its slot, and is good -/
def Dn (T : List (Nat × Nat)) (F : Nat → Value → World → Prop) (i : Nat) (a : Act) (w : World) : Prop := ∀ d, (i, d) ∈ T → ∃ v, a.tmps[d]? = some v ∧ F i v w
/-- number i waits for number j -/
def waitsOn (md : Region.Mode) (ops : Array Oper) (i j : Nat) : Bool := match ops[i]? with
  | some o => o.after.any fun e => Region.binds md e && e.on == j
  | none => false

section
variable {P : Program} {ops : Array Oper} {Q : Exit → Act → World → Prop} {md : Region.Mode} {tl : List Nat} {T : List (Nat × Nat)} {F : Nat → Value → World → Prop} {W : World → Prop} {a0 : Act}

def StepI (P : Program) (md : Region.Mode) (ops : Array Oper) (T : List (Nat × Nat)) (F : Nat → Value → World → Prop) (W : World → Prop) (a0 : Act) (i : Nat) : Prop :=
  ∀ a w, Fr a0 (T.map (·.2)) a → W w → (∀ j, waitsOn md ops i j = true → Dn T F j a w) →
    ∃ o v w', ops[i]? = some o ∧ o.guard = none ∧ (execOp a.eval o).run P w = .ok (.value v) w' ∧ Below w.heap.size w w' ∧ F i v w'

def good (md : Region.Mode) (ops : Array Oper) (tl : List Nat) (T : List (Nat × Nat)) (listed0 : Array Bool) (n : Nat) : Bool :=
  (T.all fun p => (((ops[p.1]?).bind (·.dst)) == some p.2) && decide (p.2 < n) && tl.all fun j => reach md ops ops.size j p.1) &&
  (T.all fun p => T.all fun q => p.1 == q.1 || p.2 != q.2) &&
  ((List.range ops.size).all fun k => listed0.getD k false || (T.map (·.1)).contains k || tl.contains k) &&
  (T.all fun p => tl.all fun j => p.1 != j) &&
  ((List.range ops.size).all fun k => match ops[k]? with | some o => o.after.all fun e => !Region.binds md e || decide (e.on < k) | none => true) &&
  (T.all fun p => !listed0.getD p.1 true) && decide (T.map (·.1)).Nodup

theorem count_down (rs : List Nat) (hn : rs.Nodup) (f g : Nat → Bool) (i : Nat) (hi : i ∈ rs) (h0 : f i = false) (h1 : g i = true) (he : ∀ k, k ≠ i → g k = f k) :
    (rs.filter fun k => !f k).length = (rs.filter fun k => !g k).length + 1 := by
  induction rs with
  | nil => cases hi
  | cons r rs ih =>
    rw [List.nodup_cons] at hn
    by_cases hr : r = i
    · subst hr
      have hsame : (rs.filter fun k => !f k) = rs.filter fun k => !g k := by
        apply List.filter_congr
        intro k hk
        rw [he k (fun e => hn.1 (e ▸ hk))]
      simp [h0, h1, hsame]
    · have := ih hn.2 ((List.mem_cons.1 hi).resolve_left (fun e => hr e.symm))
      rw [List.filter_cons, List.filter_cons, he r hr]
      cases f r <;> simp <;> omega

theorem ready_some {listed : Array Bool} (hlow : ((List.range ops.size).all fun k => match ops[k]? with | some o => o.after.all fun e => !Region.binds md e || decide (e.on < k) | none => true) = true) (hsz : listed.size = ops.size) :
    ∀ n k, k ≤ n → k < ops.size → listed.getD k false = false → Region.ready md ops listed ≠ [] := by
  intro n
  induction n with
  | zero =>
    intro k hk hlt hu hr
    obtain rfl : k = 0 := by omega
    have : 0 ∈ Region.ready md ops listed := by
      rw [mem_ready]
      refine ⟨?_, ops[0], Array.getElem?_eq_getElem hlt, fun e he hb => ?_⟩
      · have h' : 0 < listed.size := by omega
        simp [h'] at hu ⊢; exact hu
      · rw [List.all_eq_true] at hlow
        have h1 := hlow 0 (List.mem_range.2 hlt)
        simp only [Array.getElem?_eq_getElem hlt] at h1
        have h2 := Array.all_eq_true'.1 h1 e he
        rw [hb] at h2
        simp at h2
    rw [hr] at this
    cases this
  | succ n ih =>
    intro k hk hlt hu hr
    by_cases hall : ∀ e ∈ ops[k].after, Region.binds md e = true → listed.getD e.on false = true
    · have : k ∈ Region.ready md ops listed := by
        rw [mem_ready]
        refine ⟨?_, ops[k], Array.getElem?_eq_getElem hlt, hall⟩
        have h' : k < listed.size := by omega
        simp [h'] at hu ⊢; exact hu
      rw [hr] at this
      cases this
    · have ⟨e, he⟩ := Classical.not_forall.1 hall
      obtain ⟨he1, he⟩ := Classical.not_imp.1 he
      obtain ⟨hb, hne⟩ := Classical.not_imp.1 he
      rw [List.all_eq_true] at hlow
      have h1 := hlow k (List.mem_range.2 hlt)
      simp only [Array.getElem?_eq_getElem hlt] at h1
      have h2 := Array.all_eq_true'.1 h1 e he1
      rw [hb] at h2
      simp at h2
      exact ih e.on (by omega) (by omega) (by simpa using hne) hr

theorem inv {fuel : Nat} {listed0 Lf : Array Bool} (hg : good md ops tl T listed0 a0.tmps.size = true) (hsz : listed0.size = ops.size) (hcl : closed md ops listed0 = true) (hLf : Lf = (T.map (·.1)).foldl (fun l i => l.setIfInBounds i true) listed0)
    (hW : ∀ w w', Below w.heap.size w w' → W w → W w') (hF : ∀ w w', Below w.heap.size w w' → ∀ j u, F j u w → F j u w')
    (hstep : ∀ i ∈ T.map (·.1), StepI P md ops T F W a0 i)
    (hend : ∀ a w, Fr a0 (T.map (·.2)) a → W w → (∀ i d, (i, d) ∈ T → ∃ v, a.tmps[d]? = some v ∧ F i v w) → wpAnyL P md ops Q (fun _ => True) tl fuel Lf a w)
    (w : World) (hw : W w) : wpAnyL P md ops Q (fun _ => True) tl (fuel + T.length) listed0 a0 w := by
  unfold good at hg
  simp only [Bool.and_eq_true] at hg
  obtain ⟨⟨⟨⟨⟨⟨g1, g2⟩, g3⟩, g4⟩, g5⟩, g6⟩, g7⟩ := hg
  have hnd : (T.map (·.1)).Nodup := by simpa using g7
  have key : ∀ (n : Nat) (listed : Array Bool) (a : Act) (w : World), ((T.map (·.1)).filter fun k => !listed.getD k false).length = n → listed.size = ops.size → Closed md ops listed →
      (∀ k, (T.map (·.1)).contains k = false → listed[k]? = listed0[k]?) → Fr a0 (T.map (·.2)) a → W w → (∀ i, listed.getD i false = true → Dn T F i a w) → wpAnyL P md ops Q (fun _ => True) tl (fuel + n) listed a w := by
    intro n
    induction n with
    | zero =>
      intro listed a w hn hs _ hout hf hw hD
      have hall : ∀ k ∈ T.map (·.1), listed.getD k false = true := by
        intro k hk
        have h0 := List.eq_nil_of_length_eq_zero hn
        rw [List.filter_eq_nil_iff] at h0
        simpa using h0 k hk
      have hl : listed = Lf := by
        rw [hLf]
        have fold : ∀ (rs : List Nat) (l : Array Bool), (rs.foldl (fun l i => l.setIfInBounds i true) l).size = l.size ∧ ∀ k : Nat, (rs.foldl (fun l i => l.setIfInBounds i true) l)[k]? = if rs.contains k = true ∧ k < l.size then some true else l[k]? := by
          intro rs
          induction rs with
          | nil => intro l; exact ⟨rfl, fun k => by simp⟩
          | cons r rs ih =>
            intro l
            obtain ⟨i1, i2⟩ := ih (l.setIfInBounds r true)
            rw [List.foldl_cons]
            refine ⟨by rw [i1]; simp, fun k => ?_⟩
            rw [i2 k, Array.size_setIfInBounds, List.contains_cons]
            by_cases hk : k < l.size
            · by_cases hrk : r = k
              · subst hrk
                simp [hk]
              · have : (k == r) = false := by simpa using fun e => hrk e.symm
                rw [this, Bool.false_or, Array.getElem?_setIfInBounds_ne hrk]
            · have : l[k]? = none := Array.getElem?_eq_none (by omega)
              simp [hk]
        apply Array.ext_getElem?
        intro k
        rw [(fold _ _).2 k]
        cases hc : (T.map (·.1)).contains k
        · simp only [Bool.false_eq_true, false_and, if_false]
          exact hout k hc
        · have h1 := hall k (by simpa using hc)
          by_cases hk : k < listed0.size
          · rw [if_pos ⟨rfl, hk⟩]
            have hk2 : k < listed.size := by omega
            simp [hk2] at h1 ⊢
            exact h1
          · exfalso
            have : listed[k]? = none := Array.getElem?_eq_none (by omega)
            simp [this] at h1
      rw [hl]
      exact hend a w hf hw (fun i d hd => hD i (hall i (List.mem_map.2 ⟨_, hd, rfl⟩)) d hd)
    | succ n ih =>
      intro listed a w hn hs hcl hout hf hw hD
      have hex : ∃ k ∈ T.map (·.1), listed.getD k false = false := by
        cases hfl : (T.map (·.1)).filter fun k => !listed.getD k false with
        | nil => rw [hfl] at hn; cases hn
        | cons k r =>
          have hm : k ∈ (T.map (·.1)).filter fun k => !listed.getD k false := by rw [hfl]; exact List.mem_cons_self
          rw [List.mem_filter] at hm
          exact ⟨k, hm.1, by simpa using hm.2⟩
      obtain ⟨k, hk, hku⟩ := hex
      have hklt : k < ops.size := by
        obtain ⟨p, hp, rfl⟩ := List.mem_map.1 hk
        rw [List.all_eq_true] at g1
        have h1 := g1 p hp
        simp only [Bool.and_eq_true] at h1
        rcases Nat.lt_or_ge p.1 ops.size with h | h
        · exact h
        · rw [Array.getElem?_eq_none h] at h1
          simp at h1
      have hT : ∀ i, i ∈ Region.ready md ops listed → ∃ d, (i, d) ∈ T := by
        intro i hi
        have hi' := mem_ready.1 hi
        obtain ⟨hu, o, ho, hdeps⟩ := hi'
        have hlt : i < ops.size := (Array.getElem?_eq_some_iff.1 ho).1
        rw [List.all_eq_true] at g3
        have h3 := g3 i (List.mem_range.2 hlt)
        simp only [Bool.or_eq_true] at h3
        by_cases hc : (T.map (·.1)).contains i = true
        · obtain ⟨p, hp, e⟩ := List.mem_map.1 (show i ∈ T.map (·.1) by simpa using hc)
          exact ⟨p.2, by rw [← e]; exact hp⟩
        · exfalso
          have hc' : (T.map (·.1)).contains i = false := by simpa using hc
          have hsame := hout i hc'
          rcases h3 with (h3 | h3) | h3
          · have hl0 : i < listed0.size := by omega
            have hl1 : i < listed.size := by omega
            simp [hl0, hl1] at h3 hu hsame
            rw [hsame, h3] at hu
            cases hu
          · exact hc h3
          · obtain ⟨p, hp, e⟩ := List.mem_map.1 hk
            rw [List.all_eq_true] at g1
            have h1 := g1 p hp
            simp only [Bool.and_eq_true] at h1
            have h2 := h1.2
            rw [List.all_eq_true] at h2
            have h4 := h2 i (by simpa using h3)
            rw [e] at h4
            have := reach_spec hcl ops.size i h4 (fun oj hoj => by rw [ho] at hoj; injection hoj with e'; subst e'; exact hdeps)
            rw [this] at hku
            cases hku
      refine ⟨fun h => absurd h (ready_some g5 hs k k (Nat.le_refl _) hklt hku), fun i hi => ?_⟩
      obtain ⟨d, hd⟩ := hT i hi
      have him : i ∈ T.map (·.1) := List.mem_map.2 ⟨_, hd, rfl⟩
      have hi' := mem_ready.1 hi
      obtain ⟨hu, o, ho, hdeps⟩ := hi'
      obtain ⟨o', v, w', ho', hgd, hrun, hb, hFi⟩ := hstep i him a w hf hw (fun j hj => by
        unfold waitsOn at hj
        rw [ho] at hj
        obtain ⟨e, he, hb⟩ := Array.any_eq_true'.1 hj
        simp only [Bool.and_eq_true, beq_iff_eq] at hb
        rw [← hb.2]
        exact hD e.on (hdeps e he hb.1))
      obtain rfl : o' = o := by rw [ho] at ho'; injection ho' with e; exact e.symm
      rw [List.all_eq_true] at g1
      have h1 := g1 _ hd
      simp only [Bool.and_eq_true, beq_iff_eq, decide_eq_true_eq] at h1
      have hdst : o'.dst = some d := by
        have := h1.1.1
        rw [ho] at this
        simpa using this
      have hil : i < listed.size := by
        have := (Array.getElem?_eq_some_iff.1 ho).1
        omega
      have huf : listed.getD i false = false := by simp [hil] at hu ⊢; exact hu
      have hK : wpAnyL P md ops Q (fun _ => True) tl (fuel + n) (listed.setIfInBounds i true) (a.put o'.dst v) w' := by
        refine ih _ _ _ ?_ (by simpa using hs) (hcl.set_ hi) (fun k hk => ?_) ?_ (hW w w' hb hw) (fun j hj d' hd' => ?_)
        · have := count_down (T.map (·.1)) hnd (fun k => listed.getD k false) (fun k => (listed.setIfInBounds i true).getD k false) i him huf (by simp [hil]) (fun k hk => getD_set_ne false (fun e => hk e.symm))
          omega
        · rw [Array.getElem?_setIfInBounds_ne (fun e => by rw [← e] at hk; rw [show (T.map (·.1)).contains i = true by simpa using him] at hk; cases hk)]
          exact hout k hk
        · rw [hdst]
          exact hf.put (by simpa using ⟨_, hd⟩) v
        · rw [hdst]
          by_cases hji : j = i
          · subst hji
            have hdd : d' = d := by
              have h1' := g1 _ hd'
              simp only [Bool.and_eq_true, beq_iff_eq, decide_eq_true_eq] at h1'
              have := h1'.1.1
              rw [ho] at this
              simp only [Option.bind_some] at this
              rw [hdst] at this
              injection this with e
              exact e.symm
            subst hdd
            refine ⟨v, ?_, hFi⟩
            simp only [Act.put]
            rw [Array.getElem?_setIfInBounds_self_of_lt (by rw [hf.2.1]; exact h1.1.2)]
          · rw [getD_set_ne false (fun e => hji e.symm)] at hj
            obtain ⟨u, hu1, hu2⟩ := hD j hj d' hd'
            refine ⟨u, ?_, hF w w' hb j u hu2⟩
            rw [List.all_eq_true] at g2
            have h2 := g2 _ hd
            rw [List.all_eq_true] at h2
            have h3 := h2 _ hd'
            simp only [Bool.or_eq_true, beq_iff_eq, bne_iff_ne] at h3
            have hne : d ≠ d' := h3.resolve_left (fun e => hji e.symm)
            simp only [Act.put]
            rw [Array.getElem?_setIfInBounds_ne hne]
            exact hu1
      refine wpOp_step ho (fun K' hK' => ?_)
      have hw' : Region.wanted o' (yielded ops a.tmps) = true := by simp [Region.wanted, hgd]
      rw [if_pos hw']
      unfold Oper.wp
      rw [hrun, Oper.upon_value]
      exact hK' _ _ ⟨fun _ => trivial, hK⟩
  refine key T.length listed0 a0 w ?_ hsz (closed_spec hcl) (fun _ _ => rfl) (Fr.refl _ _) hw (fun i hi d hd => ?_)
  · rw [List.filter_eq_self.2, List.length_map]
    intro k hk
    obtain ⟨p, hp, rfl⟩ := List.mem_map.1 hk
    rw [List.all_eq_true] at g6
    have h6 := g6 p hp
    have : p.1 < listed0.size := by
      rw [List.all_eq_true] at g1
      have h1 := g1 p hp
      simp only [Bool.and_eq_true] at h1
      rcases Nat.lt_or_ge p.1 ops.size with h | h
      · omega
      · rw [Array.getElem?_eq_none h] at h1
        simp at h1
    simp [this] at h6 ⊢
    exact h6
  · exfalso
    rw [List.all_eq_true] at g6
    have h6 := g6 _ hd
    rcases Nat.lt_or_ge i listed0.size with h | h
    · simp [h] at h6 hi
      rw [hi] at h6
      cases h6
    · simp [Array.getElem?_eq_none h] at hi
end
end Go.Proofs.YtdeaodgcdacleaaDoor.Inv
namespace Go.Proofs.YtdeaodgcdacleaaDoor.MadM
open Go.ChangeShapes Go.WideShapes Go.ChangeAt Go.RowKit
open Lst Mem RowG GlyM GlyN GlyO MadN MadL MadF
set_option linter.unusedSimpArgs false
open MadG MadH MadI MadJ MadK
section
variable {w0 Y2 : World} {wa N gc gc3 m cap mb : Nat} {GA GA3 A : Option Addr} {Gs : List Gl} {G : Gl} {ms : List Int} {cs : List Value}
/-- a glyph more in the font's list -/
theorem inv_push (hs : Src w0 A m ms) (hok : GsOk (Gs ++ [G])) (hl : Gs.length = N) (h8 : N ≤ 8) (hgl : Glys T Y2 w0.heap.size (.slice GA3 (N + 1 : Nat) gc3) (Gs ++ [G])) (hk : Kc w0 mb cs A m cap Y2) (h1 : ∀ u ∈ cs, u.oneCell' = true) (hlen : cs.length = 28) (h27 : cs[27]? = some (.int .i64 wa)) :
    Inv w0 wa (N + 1) GA3 gc3 (Gs ++ [G]) A m cap ms mb (cs.set 1 (.slice GA3 (N + 1 : Nat) gc3)) (Y2.setCell ⟨mb, 1, none⟩ (.slice GA3 (N + 1 : Nat) gc3)) :=
  ⟨hs, Glys.set_ hgl hk.1 (by decide) (by decide) (by decide) (by decide), hok, by rw [List.length_append, hl]; rfl, ⟨by omega, by omega⟩, hk.set_ _ _, fun v hv => by
    rcases List.mem_or_eq_of_mem_set hv with hv | rfl
    · exact h1 v hv
    · rfl, by rw [List.length_set]; exact hlen, List.getElem?_set_self (by omega), by rw [List.getElem?_set_ne (by decide)]; exact h27⟩
theorem inv_src (h : Inv w0 wa N GA gc Gs A m cap ms mb cs Y2) : Src w0 A m ms := h.1
theorem inv_ok (h : Inv w0 wa N GA gc Gs A m cap ms mb cs Y2) : GsOk Gs := h.2.2.1
theorem inv_glen (h : Inv w0 wa N GA gc Gs A m cap ms mb cs Y2) : Gs.length = N := h.2.2.2.1
theorem inv_ones (h : Inv w0 wa N GA gc Gs A m cap ms mb cs Y2) : ∀ u ∈ cs, u.oneCell' = true := h.2.2.2.2.2.2.1
theorem inv_c1 (h : Inv w0 wa N GA gc Gs A m cap ms mb cs Y2) : cs[1]? = some (.slice GA N gc) := h.2.2.2.2.2.2.2.2.1
theorem inv_c27 (h : Inv w0 wa N GA gc Gs A m cap ms mb cs Y2) : cs[27]? = some (.int .i64 wa) := h.2.2.2.2.2.2.2.2.2
theorem inv_gat (h : Inv w0 wa N GA gc Gs A m cap ms mb cs Y2) : 0 < N → ∃ b, GA = some ⟨b, 0, none⟩ ∧ b < Y2.heap.size ∧ GlyAt T Y2 w0.heap.size b Gs := by
  obtain ⟨A2, c2, he, hat⟩ := h.gl.at_
  rw [inv_glen h] at he hat
  injection he with a _ c
  subst a c
  exact hat
end
set_option maxHeartbeats 60000000 in
set_option maxRecDepth 4000 in
theorem r4 (f : Int) (wa N : Nat) (GA A : Option Addr) (gc m cap mb : Nat) (ms : List Int) (Gs : List Gl) (cs : List Value) (w W : World) (a : Act) (c : Code) (hc : c = dropC 4 body) (ha : Fr f w.heap.size mb a) (hI : Inv w wa N GA gc Gs A m cap ms mb cs W) (hf : 0 ≤ f ∧ f ≤ 4294967295) (hN1 : N = 1) (h2 : cs[2]? = some (.slice none 0 0)) (h3 : cs[3]? = some (.slice none 0 0)) (h26 : cs[26]? = some (.slice none 0 0)) (hv : cs[8]? = some (.slice none 0 0)) (h9 : cs[9]? = some (.slice none 0 0)) (SA : Option Addr) (l lc : Nat) (ss : List Int) (hl : l = ss.length) (hl2 : l ≤ 100) (hlc : l ≤ lc) (hsr : ∀ x ∈ ss, 0 ≤ x ∧ x ≤ 4294967295) (hsh : 0 < l → ∃ b off, SA = some ⟨b, off, none⟩ ∧ b < w.heap.size ∧ At w b off (vals .u32 ss)) (h1 : a.tmps[1]? = some (.slice SA l lc)) (h6 : a.tmps[6]? = some (.pointer (some ⟨w.heap.size, 0, none⟩))) : Code.wp Tryd.prog c (EndsM w wa) a W := by
  rw [hc]
  conv in (dropC _ _) => whnf
  obtain ⟨S, he, hS⟩ := ha.open_
  have e1 := hS 1 _ h1
  have e6 := hS 6 _ h6
  clear h1 h6
  subst he
  clear ha hc hS
  rw [e1]
  clear e1
  rw [e6]
  clear e6
  subst hN1
  obtain ⟨i1, hi1, iz1, iy1, ib1⟩ := info_parts ginfo
  have HI := Lib.hid hI
  have HJ := Lib.hid (And.intro h2 (And.intro h3 (And.intro h26 (And.intro hv h9))))
  have HSS := Lib.hid hsr
  have HSH := Lib.hid hsh
  have HLL := Lib.hid hl
  clear hI h2 h3 h26 hv h9 hsr hsh hl
  obtain ⟨K, hK8, hKl, hmin⟩ : ∃ K : Nat, K ≤ 8 ∧ K ≤ l ∧ (if (8 : Int) < (l : Int) then (8 : Int) else (l : Int)) = (K : Int) := by
    by_cases h : (8 : Int) < (l : Int)
    · exact ⟨8, by omega, by omega, if_pos h⟩
    · exact ⟨l, by omega, by omega, if_neg h⟩
  go_wp2
  go_loopw [72] (fun i wr => ∃ (k : Nat) (Gs : List Gl) (GA : Option Addr) (gc : Nat) (cs' : List Value), k ≤ K ∧ i = .int .i64 k ∧ Inv w wa (k + 1) GA gc Gs A m cap ms mb cs' wr ∧ (cs'[2]? = some (.slice none 0 0) ∧ cs'[3]? = some (.slice none 0 0) ∧ cs'[26]? = some (.slice none 0 0) ∧ cs'[8]? = some (.slice none 0 0) ∧ cs'[9]? = some (.slice none 0 0))) (fun i _ => K - (intOf i).toNat)
  case atStart => exact ⟨0, Gs, GA, gc, cs, Nat.zero_le _, rfl, HI.out, HJ.out⟩
  case round =>
    clear HI HJ
    obtain ⟨k, Gs, GA, gc, cs2, hkK, rfl, hIX0, ⟨c2, c3, c26, c8, c9⟩⟩ := hrel
    by_cases hlt : k < K
    · obtain ⟨sb, off, hSA, hsl, hA⟩ := HSH.out (by omega)
      subst hSA
      have hkl : k < ss.length := by rw [← HLL.out]; omega
      have d1 := (hIX0.kc.2.2.2.2.cell (p := ⟨sb, off + k, none⟩) hsl).trans (hA.get (j := k) hkl)
      have hx0 := HSS.out _ (getD_mem ss k 0 hkl)
      obtain ⟨x, hx⟩ : ∃ x, x = ss.getD k 0 := ⟨_, rfl⟩
      rw [← hx] at d1 hx0
      clear hA hx hkl hsl
      obtain ⟨X0, hX0⟩ : ∃ W, W = wr := ⟨_, rfl⟩
      subst hX0
      have c1 := (inv_c1 hIX0)
      have h27 := (inv_c27 hIX0)
      have hln := hIX0.len
      have hone := (inv_ones hIX0)
      have hok := (inv_ok hIX0)
      have hGl := (inv_glen hIX0)
      have HK := Lib.hid (And.intro h27 (And.intro hln (And.intro hone hok)))
      clear h27 hone hok
      go_wp2_with fail
      refine Tail.start (S := (fun w1 => Blk mb 35 cs2 w1 ∧ Blk w.heap.size 24 [.slice A m cap] w1)) (tl := [10]) (by kernel_rfl) ⟨hIX0.drew.kc.1, hIX0.drew.kc.2.1⟩ (fun hHeld => ?_)
      obtain ⟨X, hX⟩ : ∃ X, X = X0.drew := ⟨_, rfl⟩
      have hIX := hIX0.drew
      rw [← hX] at hIX
      rw [← hX]
      clear hX hHeld hIX0
      have hHeld : (fun w1 => Blk mb 35 cs2 w1 ∧ Blk w.heap.size 24 [.slice A m cap] w1) X := ⟨hIX.kc.1, hIX.kc.2.1⟩
      clear d1
      refine Tail.take (i := 0) (v := ?vq1) rfl (by kernel_rfl) (by kernel_rfl) (by kernel_rfl) (by kernel_rfl) (by kernel_rfl) (fun _ _ _ h => h) (Or.inl ⟨by rfl, ?hyq1⟩) (by assumption) ?restq1
      case hyq1 => (intro w1 hS; go_simp <;> with_reducible rfl)
      try simp only [Act.put, List.getElem_toArray, List.getElem_cons_zero, List.getElem_cons_succ, List.setIfInBounds_toArray, List.set_cons_zero, List.set_cons_succ]
      refine Tail.take (i := 1) (v := ?vq2) rfl (by kernel_rfl) (by kernel_rfl) (by kernel_rfl) (by kernel_rfl) (by kernel_rfl) (fun _ _ _ h => h) (Or.inl ⟨by rfl, ?hyq2⟩) (by assumption) ?restq2
      case hyq2 => (intro w1 hS; obtain ⟨s1, s2⟩ := hS; have m1 := s1.cell (i := 1) c1; go_simp <;> with_reducible rfl)
      try simp only [Act.put, List.getElem_toArray, List.getElem_cons_zero, List.getElem_cons_succ, List.setIfInBounds_toArray, List.set_cons_zero, List.set_cons_succ]
      refine Tail.take (i := 2) (v := ?vq3) rfl (by kernel_rfl) (by kernel_rfl) (by kernel_rfl) (by kernel_rfl) (by kernel_rfl) (fun _ _ _ h => h) (Or.inl ⟨by rfl, ?hyq3⟩) (by assumption) ?restq3
      case hyq3 => (intro w1 hS; go_simp <;> with_reducible rfl)
      try simp only [Act.put, List.getElem_toArray, List.getElem_cons_zero, List.getElem_cons_succ, List.setIfInBounds_toArray, List.set_cons_zero, List.set_cons_succ]
      refine Tail.take (i := 3) (v := ?vq4) rfl (by kernel_rfl) (by kernel_rfl) (by kernel_rfl) (by kernel_rfl) (by kernel_rfl) (fun _ _ _ h => h) (Or.inl ⟨by rfl, ?hyq4⟩) (by assumption) ?restq4
      case hyq4 => (intro w1 hS; obtain ⟨s1, s2⟩ := hS; have n0 := s2.cell (i := 0) rfl; go_simp <;> with_reducible rfl)
      try simp only [Act.put, List.getElem_toArray, List.getElem_cons_zero, List.getElem_cons_succ, List.setIfInBounds_toArray, List.set_cons_zero, List.set_cons_succ]
      refine Tail.take (i := 4) (v := ?vq5) rfl (by kernel_rfl) (by kernel_rfl) (by kernel_rfl) (by kernel_rfl) (by kernel_rfl) (fun _ _ _ h => h) (Or.inl ⟨by rfl, ?hyq5⟩) (by assumption) ?restq5
      case hyq5 => (intro w1 hS; go_simp <;> with_reducible rfl)
      try simp only [Act.put, List.getElem_toArray, List.getElem_cons_zero, List.getElem_cons_succ, List.setIfInBounds_toArray, List.set_cons_zero, List.set_cons_succ]
      refine Tail.take (i := 5) (v := ?vq6) rfl (by kernel_rfl) (by kernel_rfl) (by kernel_rfl) (by kernel_rfl) (by kernel_rfl) (fun _ _ _ h => h) (Or.inl ⟨by rfl, ?hyq6⟩) (by assumption) ?restq6
      case hyq6 => (intro w1 hS; obtain ⟨s1, s2⟩ := hS; have m1 := s1.cell (i := 1) c1; go_simp <;> with_reducible rfl)
      try simp only [Act.put, List.getElem_toArray, List.getElem_cons_zero, List.getElem_cons_succ, List.setIfInBounds_toArray, List.set_cons_zero, List.set_cons_succ]
      refine Tail.ready (rs := [6]) (by kernel_rfl) (by simp) (Tail.AllReadyL.cons rfl (fun K hK => ?_) Tail.AllReadyL.nil)
      go_simp
      go_at_call 12
      refine (glyphOf_any x A GA m cap (k + 1) gc w.heap.size ms Gs X hx0 (((inv_src hIX)).below hIX.kc.2.2.2.2) hGl.symm (by omega) (inv_gat hIX)).mono ?_
      rintro e X1 ⟨vc, vr, G, rfl, hG, hGo, hdX1⟩
      have hIX1 := hIX.below hdX1
      try go_wp2_with fail
      refine hK.out _ _ ⟨hIX1.kc.1, hIX1.kc.2.1⟩ (fun hHeld => ?_)
      clear hK K
      try simp only [Act.put, List.getElem_toArray, List.getElem_cons_zero, List.getElem_cons_succ, List.setIfInBounds_toArray, List.set_cons_zero, List.set_cons_succ]
      refine Tail.ready (rs := [7]) (by kernel_rfl) (by simp) (Tail.AllReadyL.cons rfl (fun K hK => ?_) Tail.AllReadyL.nil)
      go_simp
      have hd0 := bel_made X1 #[vc, vr] 55
      have hI0 := hIX1.below hd0
      refine hK.out _ _ ⟨hI0.kc.1, hI0.kc.2.1⟩ (fun hHeld => ?_)
      clear hK K
      try simp only [Act.put, List.getElem_toArray, List.getElem_cons_zero, List.getElem_cons_succ, List.setIfInBounds_toArray, List.set_cons_zero, List.set_cons_succ]
      obtain ⟨Y, hY⟩ : ∃ Y, Y = X1.alloc (.cells #[vc, vr] 55) := ⟨_, rfl⟩
      have hbY : Blk X1.heap.size 55 [vc, vr] Y := by rw [hY]; exact Blk.new_ X1 #[vc, vr] 55
      rw [← hY]
      rw [← hY] at hHeld hd0 hI0
      have hIY := hI0
      have hdY := hd0
      clear hY hI0 hd0
      have hkY := hIY.kc
      have hGY := hG.same (Same.below hdY)
      obtain ⟨xs, hro, hri⟩ := hIY.gl
      refine Tail.ready (rs := [8]) (by kernel_rfl) (by simp) (Tail.AllReadyL.cons rfl (fun K hK => ?_) Tail.AllReadyL.nil)
      refine step_app2 rfl (.tmp 77) (.tmp 83) 26 rfl (w.heap.size) 55 i1 (.agg #[.slice none 0 0, .slice none 0 0]) 2 48 Tryd.underlying26 hi1 iz1 iy1 ib1 rfl (by decide) (.slice GA (k + 1 : Nat) gc) (k + 1) xs rfl (by have h := hro; rw [hGl] at h; exact h) ⟨X1.heap.size, 0, none⟩ 1 1 [vc, vr] rfl rfl (two_cells hbY) (gly_any vc vr G hGY) (by unfold maxLen; omega) (by omega) (by have := hkY.sz; omega) ?_
      intro v8 Y2 own8 grow8 nil8 at8
      have hgl2 := Glys.more hro hri hGY (show w.heap.size ≤ X.heap.size by have := hIX.sz; omega) grow8 (by rw [hGl]; exact own8)
      have hkY2 := hkY.grown grow8 (t := 55) (fun b hb => own_isT hro hb) (by decide) (by decide)
      refine hK.out _ _ ⟨hkY2.1, hkY2.2.1⟩ (fun hHeld => ?_)
      clear hK K
      try simp only [Act.put, List.getElem_toArray, List.getElem_cons_zero, List.getElem_cons_succ, List.setIfInBounds_toArray, List.set_cons_zero, List.set_cons_succ]
      obtain ⟨GA3, gc3, hv8, _⟩ := hgl2.at_
      rw [List.length_append, hGl, List.length_singleton] at hv8
      subst hv8
      refine Tail.take (i := 9) (v := ?vq7) rfl (by kernel_rfl) (by kernel_rfl) (by kernel_rfl) (by kernel_rfl) (by kernel_rfl) (fun _ _ _ h => h) (Or.inl ⟨by rfl, ?hyq7⟩) (by assumption) ?restq7
      case hyq7 => (intro w1 hS; go_simp <;> with_reducible rfl)
      try simp only [Act.put, List.getElem_toArray, List.getElem_cons_zero, List.getElem_cons_succ, List.setIfInBounds_toArray, List.set_cons_zero, List.set_cons_succ]
      refine Tail.ready (rs := [10]) (by kernel_rfl) (by simp) (Tail.AllReadyL.last rfl (by rfl) (fun K hK => ?_) Tail.AllReadyL.nil)
      have ccx := hkY2.1.cell (i := 1) c1
      have cfx := hkY2.1.frozen
      go_simp
      refine hK.out _ _ ?_
      clear hK K
      try simp only [Act.put, List.getElem_toArray, List.getElem_cons_zero, List.getElem_cons_succ, List.setIfInBounds_toArray, List.set_cons_zero, List.set_cons_succ]
      refine Tail.done (by kernel_rfl) ?_ _
      obtain ⟨W1, hW⟩ : ∃ W1, W1 = Y2.setCell ⟨mb, 1, none⟩ (.slice GA3 (k + 1 + 1 : Nat) gc3) := ⟨_, rfl⟩
      have hIW1 := inv_push (wa := wa) (inv_src hIX) (HK.out.2.2.2.push hGo) hGl (by omega) hgl2 hkY2 HK.out.2.2.1 hln HK.out.1
      rw [← hW] at hIW1
      try rw [← hW]
      have HF := Lib.hid hIW1
      clear hW ccx cfx hIW1 hHeld hgl2 hkY2 hkY hGY hro hri grow8 own8 nil8 at8 hdY hdX1 hIX hIX1 hIY hbY hG
      have d2 : (cs2.set 1 (.slice GA3 (k + 1 + 1 : Nat) gc3))[2]? = some (.slice none 0 0) := by rw [List.getElem?_set_ne (by decide)]; exact c2
      have d3 : (cs2.set 1 (.slice GA3 (k + 1 + 1 : Nat) gc3))[3]? = some (.slice none 0 0) := by rw [List.getElem?_set_ne (by decide)]; exact c3
      have d26 : (cs2.set 1 (.slice GA3 (k + 1 + 1 : Nat) gc3))[26]? = some (.slice none 0 0) := by rw [List.getElem?_set_ne (by decide)]; exact c26
      have d8 : (cs2.set 1 (.slice GA3 (k + 1 + 1 : Nat) gc3))[8]? = some (.slice none 0 0) := by rw [List.getElem?_set_ne (by decide)]; exact c8
      have d9 : (cs2.set 1 (.slice GA3 (k + 1 + 1 : Nat) gc3))[9]? = some (.slice none 0 0) := by rw [List.getElem?_set_ne (by decide)]; exact c9
      have HD := Lib.hid (And.intro d2 (And.intro d3 (And.intro d26 (And.intro d8 d9))))
      clear d2 d3 d26 d8 d9 c1 c2 c3 c26 c8 c9
      go_wp2
      go_roundw
      case rel => exact ⟨k + 1, Gs ++ [G], GA3, gc3, _, by omega, by go_num, HF.out, HD.out⟩
      case measure => simp [intOf]; omega
    · obtain rfl : K = k := by omega
      repeat (first | ((with_reducible refine Gate.seq ?_); refine r5 f wa (K + 1) GA A gc m cap mb ms Gs cs2 w _ _ _ (by kernel_rfl) (by exact ⟨rfl, rfl, rfl, rfl, rfl, rfl, rfl⟩) hIX0 hf c2 c3 c26 c8 c9) | go_values | go_skip | go_guarded | go_step | go_upon | go_back | go_simp)
set_option maxHeartbeats 60000000 in
set_option maxRecDepth 4000 in
theorem r3 (f : Int) (wa : Nat) (A : Option Addr) (m cap mb : Nat) (ms : List Int) (cs : List Value) (w W : World) (a : Act) (c : Code) (hc : c = dropC 3 body) (ha : Fr f w.heap.size mb a) (hf : 0 ≤ f ∧ f ≤ 4294967295) (h2 : cs[2]? = some (.slice none 0 0)) (h3 : cs[3]? = some (.slice none 0 0)) (h26 : cs[26]? = some (.slice none 0 0)) (hv : cs[8]? = some (.slice none 0 0)) (h9 : cs[9]? = some (.slice none 0 0)) (SA : Option Addr) (l lc : Nat) (ss : List Int) (hl : l = ss.length) (hl2 : l ≤ 100) (hlc : l ≤ lc) (hsr : ∀ x ∈ ss, 0 ≤ x ∧ x ≤ 4294967295) (hsh : 0 < l → ∃ b off, SA = some ⟨b, off, none⟩ ∧ b < w.heap.size ∧ At w b off (vals .u32 ss)) (h1 : a.tmps[1]? = some (.slice SA l lc)) (h6 : a.tmps[6]? = some (.pointer (some ⟨w.heap.size, 0, none⟩))) (hs : Src w A m ms) (hk : Kc w mb cs A m cap W) (hone : ∀ u ∈ cs, u.oneCell' = true) (hln : cs.length = 28) (h27 : cs[27]? = some (.int .i64 wa)) (hc1 : cs[1]? = some (.slice none 0 0)) : Code.wp Tryd.prog c (EndsM w wa) a W := by
  rw [hc]
  conv in (dropC _ _) => whnf
  obtain ⟨S, he, hS⟩ := ha.open_
  have e1 := hS 1 _ h1
  have e6 := hS 6 _ h6
  clear h1 h6
  subst he
  clear ha hc hS
  rw [e1]
  clear e1
  rw [e6]
  clear e6
  obtain ⟨i1, hi1, iz1, iy1, ib1⟩ := info_parts ginfo
  have HJ := Lib.hid (And.intro h2 (And.intro h3 (And.intro h26 (And.intro hv h9))))
  have HK := Lib.hid (And.intro hs (And.intro h27 hone))
  have HSH := Lib.hid (And.intro hl (And.intro hsr hsh))
  clear h2 h3 h26 hv h9 hsr hsh hl hs hone h27
  obtain ⟨X0, hX0⟩ : ∃ X, X = W := ⟨_, rfl⟩
  subst hX0
  go_wp2_with fail
  refine Tail.start (S := (fun w1 => Blk mb 35 cs w1 ∧ Blk w.heap.size 24 [.slice A m cap] w1)) (tl := [7]) (by kernel_rfl) ⟨hk.drew.1, hk.drew.2.1⟩ (fun hHeld => ?_)
  obtain ⟨X, hX⟩ : ∃ X, X = X0.drew := ⟨_, rfl⟩
  have hkX := hk.drew
  rw [← hX] at hkX
  rw [← hX]
  clear hX hHeld hk
  have hHeld : (fun w1 => Blk mb 35 cs w1 ∧ Blk w.heap.size 24 [.slice A m cap] w1) X := ⟨hkX.1, hkX.2.1⟩
  refine Tail.take (i := 0) (v := ?vq8) rfl (by kernel_rfl) (by kernel_rfl) (by kernel_rfl) (by kernel_rfl) (by kernel_rfl) (fun _ _ _ h => h) (Or.inl ⟨by rfl, ?hyq8⟩) (by assumption) ?restq8
  case hyq8 => (intro w1 hS; go_simp <;> with_reducible rfl)
  try simp only [Act.put, List.getElem_toArray, List.getElem_cons_zero, List.getElem_cons_succ, List.setIfInBounds_toArray, List.set_cons_zero, List.set_cons_succ]
  refine Tail.take (i := 1) (v := ?vq9) rfl (by kernel_rfl) (by kernel_rfl) (by kernel_rfl) (by kernel_rfl) (by kernel_rfl) (fun _ _ _ h => h) (Or.inl ⟨by rfl, ?hyq9⟩) (by assumption) ?restq9
  case hyq9 => (intro w1 hS; obtain ⟨s1, s2⟩ := hS; have m1 := s1.cell (i := 1) hc1; go_simp <;> with_reducible rfl)
  try simp only [Act.put, List.getElem_toArray, List.getElem_cons_zero, List.getElem_cons_succ, List.setIfInBounds_toArray, List.set_cons_zero, List.set_cons_succ]
  refine Tail.take (i := 2) (v := ?vq10) rfl (by kernel_rfl) (by kernel_rfl) (by kernel_rfl) (by kernel_rfl) (by kernel_rfl) (fun _ _ _ h => h) (Or.inl ⟨by rfl, ?hyq10⟩) (by assumption) ?restq10
  case hyq10 => (intro w1 hS; obtain ⟨s1, s2⟩ := hS; have n0 := s2.cell (i := 0) rfl; go_simp <;> with_reducible rfl)
  try simp only [Act.put, List.getElem_toArray, List.getElem_cons_zero, List.getElem_cons_succ, List.setIfInBounds_toArray, List.set_cons_zero, List.set_cons_succ]
  refine Tail.ready (rs := [3]) (by kernel_rfl) (by simp) (Tail.AllReadyL.cons rfl (fun K hK => ?_) Tail.AllReadyL.nil)
  go_simp
  go_at_call 12
  refine (glyphOf_any 1073741825 A none m cap 0 0 0 ms [] X (by omega) (HK.out.1.below hkX.2.2.2.2) rfl (by omega) (fun h => absurd h (by omega))).mono ?_
  rintro e X1 ⟨vc, vr, G, rfl, hG, hGo, hdX1⟩
  have hkX1 := hkX.below hdX1
  try go_wp2_with fail
  refine hK.out _ _ ⟨hkX1.1, hkX1.2.1⟩ (fun hHeld => ?_)
  clear hK K
  try simp only [Act.put, List.getElem_toArray, List.getElem_cons_zero, List.getElem_cons_succ, List.setIfInBounds_toArray, List.set_cons_zero, List.set_cons_succ]
  refine Tail.ready (rs := [4]) (by kernel_rfl) (by simp) (Tail.AllReadyL.cons rfl (fun K hK => ?_) Tail.AllReadyL.nil)
  go_simp
  have hdY := bel_made X1 #[vc, vr] 55
  have hkY := hkX1.below hdY
  refine hK.out _ _ ⟨hkY.1, hkY.2.1⟩ (fun hHeld => ?_)
  clear hK K
  try simp only [Act.put, List.getElem_toArray, List.getElem_cons_zero, List.getElem_cons_succ, List.setIfInBounds_toArray, List.set_cons_zero, List.set_cons_succ]
  obtain ⟨Y, hY⟩ : ∃ Y, Y = X1.alloc (.cells #[vc, vr] 55) := ⟨_, rfl⟩
  have hbY : Blk X1.heap.size 55 [vc, vr] Y := by rw [hY]; exact Blk.new_ X1 #[vc, vr] 55
  rw [← hY]
  rw [← hY] at hHeld hdY hkY
  clear hY
  have hGY := hG.same (Same.below hdY)
  refine Tail.ready (rs := [5]) (by kernel_rfl) (by simp) (Tail.AllReadyL.cons rfl (fun K hK => ?_) Tail.AllReadyL.nil)
  refine step_app2 rfl (.tmp 60) (.tmp 63) 26 rfl (w.heap.size) 55 i1 (.agg #[.slice none 0 0, .slice none 0 0]) 2 48 Tryd.underlying26 hi1 iz1 iy1 ib1 rfl (by decide) (.slice none 0 0) (0) [] rfl (World.ownsRow_nil _ _ _ _) ⟨X1.heap.size, 0, none⟩ 1 1 [vc, vr] rfl rfl (two_cells hbY) (gly_any vc vr G hGY) (by unfold maxLen; omega) (by omega) (by have := hkY.sz; omega) ?_
  intro v5 Y2 own5 grow5 nil5 at5
  have hgl2 := Glys.more (Gs := []) (World.ownsRow_nil _ _ _ _) (fun i h => absurd h (by simp)) hGY (show w.heap.size ≤ X.heap.size by have := hkX.sz; omega) grow5 own5
  have hkY2 := hkY.grown grow5 (t := 55) (fun b hb => by cases hb) (by decide) (by decide)
  refine hK.out _ _ ⟨hkY2.1, hkY2.2.1⟩ (fun hHeld => ?_)
  clear hK K
  try simp only [Act.put, List.getElem_toArray, List.getElem_cons_zero, List.getElem_cons_succ, List.setIfInBounds_toArray, List.set_cons_zero, List.set_cons_succ]
  obtain ⟨GA3, gc3, hv8, _⟩ := hgl2.at_
  rw [List.length_append, List.length_nil, List.length_singleton] at hv8
  subst hv8
  refine Tail.take (i := 6) (v := ?vq11) rfl (by kernel_rfl) (by kernel_rfl) (by kernel_rfl) (by kernel_rfl) (by kernel_rfl) (fun _ _ _ h => h) (Or.inl ⟨by rfl, ?hyq11⟩) (by assumption) ?restq11
  case hyq11 => (intro w1 hS; go_simp <;> with_reducible rfl)
  try simp only [Act.put, List.getElem_toArray, List.getElem_cons_zero, List.getElem_cons_succ, List.setIfInBounds_toArray, List.set_cons_zero, List.set_cons_succ]
  refine Tail.ready (rs := [7]) (by kernel_rfl) (by simp) (Tail.AllReadyL.last rfl (by rfl) (fun K hK => ?_) Tail.AllReadyL.nil)
  have ccx := hkY2.1.cell (i := 1) hc1
  have cfx := hkY2.1.frozen
  go_simp
  refine hK.out _ _ ?_
  clear hK K
  try simp only [Act.put, List.getElem_toArray, List.getElem_cons_zero, List.getElem_cons_succ, List.setIfInBounds_toArray, List.set_cons_zero, List.set_cons_succ]
  refine Tail.done (by kernel_rfl) ?_ _
  obtain ⟨W1, hW⟩ : ∃ W1, W1 = Y2.setCell ⟨mb, 1, none⟩ (.slice GA3 (0 + 1 : Nat) gc3) := ⟨_, rfl⟩
  have hIW1 := inv_push (N := 0) HK.out.1 (GsOk.nil_.push hGo) rfl (by omega) hgl2 hkY2 HK.out.2.2 hln HK.out.2.1
  rw [← hW] at hIW1
  try rw [← hW]
  clear hW ccx cfx hHeld hgl2 hkY2 hkY hGY grow5 own5 nil5 at5 hdY hdX1 hkX hkX1 hbY hG
  repeat (first | ((with_reducible refine Gate.seq ?_); refine r4 f wa (0 + 1) GA3 A gc3 m cap mb ms ([] ++ [G]) _ w _ _ _ (by kernel_rfl) (by exact ⟨rfl, rfl, rfl, rfl, rfl, rfl, rfl⟩) hIW1 hf rfl (by rw [List.getElem?_set_ne (by decide)]; exact HJ.out.1) (by rw [List.getElem?_set_ne (by decide)]; exact HJ.out.2.1) (by rw [List.getElem?_set_ne (by decide)]; exact HJ.out.2.2.1) (by rw [List.getElem?_set_ne (by decide)]; exact HJ.out.2.2.2.1) (by rw [List.getElem?_set_ne (by decide)]; exact HJ.out.2.2.2.2) SA l lc ss HSH.out.1 hl2 hlc HSH.out.2.1 HSH.out.2.2 rfl rfl) | go_values | go_skip | go_guarded | go_step | go_upon | go_back | go_simp)
end Go.Proofs.YtdeaodgcdacleaaDoor.MadM
namespace Go.Proofs.YtdeaodgcdacleaaDoor.MadB
open Go.ChangeShapes Go.WideShapes Go.ChangeAt Go.RowKit
open Lst Mem RowG GlyM GlyN GlyO MadN MadL MadF MadG MadH MadI MadJ MadK MadM
set_option linter.unusedSimpArgs false

/-- what the values of the first statement are good for -/
def fstF (w0 : World) (un fm ve : Int) (lo fi : Bool) (wa u5 u4 u2 : Nat) (i : Nat) (v : Value) (w : World) : Prop :=
  match i with
  | 0 => ∃ g, v = .slice (some ⟨g, 0, none⟩) 5 5 ∧ Blk g 3 [.int .i64 1000, .int .i64 2048, .int .i64 16, .int .i64 16384, .int .i64 1024] w
  | 3 => ∃ g, v = .pointer (some ⟨g, u5, none⟩) ∧ Blk g 3 [.int .i64 1000, .int .i64 2048, .int .i64 16, .int .i64 16384, .int .i64 1024] w
  | 4 => v = .int .i64 un
  | 5 => ∃ g, v = .slice (some ⟨g, 0, none⟩) 4 4 ∧ Blk g 3 [.int .i64 4, .int .i64 12, .int .i64 6, .int .i64 0] w
  | 9 => ∃ g, v = .pointer (some ⟨g, u4, none⟩) ∧ Blk g 3 [.int .i64 4, .int .i64 12, .int .i64 6, .int .i64 0] w
  | 10 => v = .int .i64 fm
  | 19 => ∃ g, v = .slice (some ⟨g, 0, none⟩) 2 2 ∧ Blk g 3 [.int .i64 196608, .int .i64 131072] w
  | 23 => ∃ g, v = .pointer (some ⟨g, u2, none⟩) ∧ Blk g 3 [.int .i64 196608, .int .i64 131072] w
  | 24 => v = .int .i64 ve
  | 29 => v = .agg (mc un (.slice none 0 0) (.slice none 0 0) (.slice none 0 0) 0 (.slice none 0 0) fm lo (.slice none 0 0) (.slice none 0 0) ve fi (.slice none 0 0) wa).toArray
  | 30 => ∃ g, v = .pointer (some ⟨g, 0, none⟩) ∧ Blk g 35 mz w ∧ w0.heap.size + 2 ≤ g
  | _ => False
theorem fstF_keep {w0 w w' : World} {un fm ve : Int} {lo fi : Bool} {wa u5 u4 u2 i : Nat} {v : Value} (hb : Below w.heap.size w w') (h : fstF w0 un fm ve lo fi wa u5 u4 u2 i v w) : fstF w0 un fm ve lo fi wa u5 u4 u2 i v w' := by
  unfold fstF at h ⊢
  split at h
  all_goals first
    | exact h
    | (obtain ⟨g, e, h⟩ := h; exact ⟨g, e, h.keep hb⟩)
    | (obtain ⟨g, e, h, h2⟩ := h; exact ⟨g, e, h.keep hb, h2⟩)

set_option maxHeartbeats 60000000 in
set_option maxRecDepth 4000 in
theorem made_any (f : Int) (SA A : Option Addr) (l lc m cap : Nat) (ss ms : List Int) (w : World) (hf : 0 ≤ f ∧ f ≤ 4294967295) (hl : l = ss.length) (hl2 : l ≤ 100) (hlc : l ≤ lc) (hsr : ∀ x ∈ ss, 0 ≤ x ∧ x ≤ 4294967295) (hsh : 0 < l → ∃ b off, SA = some ⟨b, off, none⟩ ∧ b < w.heap.size ∧ At w b off (vals .u32 ss)) (hs : Src w A m ms) (wa : Nat) (hwa : (f / 64).tmod 4 = (wa : Int)) :
    Calls Tryd.prog 6 #[.int .u32 f, .slice SA l lc, .slice A m cap, .slice none 0 0] w (MadeP w wa) := by
  obtain ⟨u5, hu5⟩ : ∃ u : Nat, f.tmod 5 = (u : Int) := ⟨(f.tmod 5).toNat, by have := Int.tmod_nonneg (a := f) 5 hf.1; omega⟩
  have hb5 : (u5 : Int) < 5 := by have := Int.tmod_lt_of_pos f (b := 5) (by omega); omega
  obtain ⟨un, hun⟩ : ∃ un : Int, ([Value.int .i64 1000, .int .i64 2048, .int .i64 16, .int .i64 16384, .int .i64 1024])[u5]? = some (.int .i64 un) := by
    match u5, hb5 with
    | 0, _ => exact ⟨_, rfl⟩
    | 1, _ => exact ⟨_, rfl⟩
    | 2, _ => exact ⟨_, rfl⟩
    | 3, _ => exact ⟨_, rfl⟩
    | 4, _ => exact ⟨_, rfl⟩
  obtain ⟨u4, hu4⟩ : ∃ u : Nat, (f / 8).tmod 4 = (u : Int) := ⟨((f / 8).tmod 4).toNat, by have := Int.tmod_nonneg (a := f / 8) 4 (by omega); omega⟩
  have hb4 : (u4 : Int) < 4 := by have := Int.tmod_lt_of_pos (f / 8) (b := 4) (by omega); omega
  obtain ⟨fm, hfm⟩ : ∃ un : Int, ([Value.int .i64 4, .int .i64 12, .int .i64 6, .int .i64 0])[u4]? = some (.int .i64 un) := by
    match u4, hb4 with
    | 0, _ => exact ⟨_, rfl⟩
    | 1, _ => exact ⟨_, rfl⟩
    | 2, _ => exact ⟨_, rfl⟩
    | 3, _ => exact ⟨_, rfl⟩
  obtain ⟨u2, hu2⟩ : ∃ u : Nat, bits BinOp.and IntKind.u32 (f / 256) 1 = (u : Int) := ⟨((f / 256) % 2).toNat, by rw [and1 _ (by omega) (by omega)]; omega⟩
  have hb2 : (u2 : Int) < 2 := by rw [← hu2, and1 _ (by omega) (by omega)]; omega
  obtain ⟨ve, hve⟩ : ∃ un : Int, ([Value.int .i64 196608, .int .i64 131072])[u2]? = some (.int .i64 un) := by
    match u2, hb2 with
    | 0, _ => exact ⟨_, rfl⟩
    | 1, _ => exact ⟨_, rfl⟩
  obtain ⟨lo, hlo⟩ : ∃ b, (bits BinOp.and IntKind.u32 (f / 32) 1 == 1) = b := ⟨_, rfl⟩
  obtain ⟨fi, hfi⟩ : ∃ b, (bits BinOp.and IntKind.u32 (f / 512) 1 == 1) = b := ⟨_, rfl⟩
  have hwa3 : wa ≤ 3 := by have := Int.tmod_lt_of_pos (f / 64) (b := 4) (by omega); omega
  have wwa : IntKind.i64.wrap (wa : Int) = wa := IntWalk.i64_in _ (by omega)
  have hf0 := hf
  have HS := Lib.hid hs
  have HSS := Lib.hid hsr
  have HSH := Lib.hid hsh
  have HLL := Lib.hid hl
  obtain ⟨i1, hi1, iz1, iy1, ib1⟩ := info_parts ginfo
  obtain ⟨i2, hi2, iz2, iy2, ib2⟩ := info_parts iinfo
  obtain ⟨i3, hi3, iz3, iy3, ib3⟩ := info_parts sinfo
  obtain ⟨i4, hi4, iz4, iy4, ib4⟩ := info_parts kinfo
  obtain ⟨i5, hi5, iz5, iy5, ib5⟩ := info_parts ninfo
  clear hs hsr hsh hl
  go_enter Tryd.func6, Tryd.ntmps6
  go_wp2
  have hkN := Blk.new_ w #[.slice A m cap] 24
  have hkR := Blk.new_ (w.alloc (.cells #[.slice A m cap] 24)) mz.toArray 35
  simp only [World.size_alloc] at hkR
  have hl0 : Below w.heap.size w ((w.alloc (.cells #[.slice A m cap] 24)).alloc (.cells mz.toArray 35)) := (bel_made w _ _).alloc (by simp) _
  obtain ⟨X0, hX0⟩ : ∃ W, W = (w.alloc (.cells #[.slice A m cap] 24)).alloc (.cells mz.toArray 35) := ⟨_, rfl⟩
  have hn0 : Blk w.heap.size 24 [.slice A m cap] X0 := by rw [hX0]; exact hkN.keep (bel_made _ _ _)
  have hr0 : Blk (w.heap.size + 1) 35 mz X0 := by rw [hX0]; exact hkR
  rw [← hX0] at hl0
  have hs0 : X0.heap.size = w.heap.size + 2 := by rw [hX0]; simp
  change Code.wp _ _ _ _ ((w.alloc (.cells #[.slice A m cap] 24)).alloc (.cells mz.toArray 35))
  rw [← hX0]
  clear hX0 hkN hkR
  go_wp2_with fail
  refine Tail.start (S := fun _ => True) (tl := [31]) (by kernel_rfl) trivial (fun hHeld => ?_)
  obtain ⟨X, hX⟩ : ∃ W, W = X0.drew := ⟨_, rfl⟩
  have hnX : Blk w.heap.size 24 [.slice A m cap] X := by rw [hX]; exact hn0
  have hrX : Blk (w.heap.size + 1) 35 mz X := by rw [hX]; exact hr0
  have hlX : Below w.heap.size w X := by rw [hX]; exact Below.drew hl0
  have hsX : w.heap.size + 2 ≤ X.heap.size := by rw [hX]; exact Nat.le_of_eq hs0.symm
  rw [← hX]
  clear hX hn0 hr0 hl0 hs0 hHeld
  have hHeld : (fun _ : World => True) X := trivial
  refine Tail.take (i := 1) (v := ?vq1) rfl (by kernel_rfl) (by kernel_rfl) (by kernel_rfl) (by kernel_rfl) (by kernel_rfl) (fun _ _ _ h => h) (Or.inl ⟨by rfl, ?hyq1⟩) (by assumption) ?restq1
  case hyq1 => (intro w1 hS; go_simp <;> with_reducible rfl)
  try simp only [Act.put, List.getElem_toArray, List.getElem_cons_zero, List.getElem_cons_succ, List.setIfInBounds_toArray, List.set_cons_zero, List.set_cons_succ]
  refine Tail.take (i := 2) (v := ?vq2) rfl (by kernel_rfl) (by kernel_rfl) (by kernel_rfl) (by kernel_rfl) (by kernel_rfl) (fun _ _ _ h => h) (Or.inl ⟨by rfl, ?hyq2⟩) (by assumption) ?restq2
  case hyq2 => (intro w1 hS; go_simp <;> with_reducible rfl)
  try simp only [Act.put, List.getElem_toArray, List.getElem_cons_zero, List.getElem_cons_succ, List.setIfInBounds_toArray, List.set_cons_zero, List.set_cons_succ]
  refine Tail.take (i := 6) (v := ?vq3) rfl (by kernel_rfl) (by kernel_rfl) (by kernel_rfl) (by kernel_rfl) (by kernel_rfl) (fun _ _ _ h => h) (Or.inl ⟨by rfl, ?hyq3⟩) (by assumption) ?restq3
  case hyq3 => (intro w1 hS; go_simp <;> with_reducible rfl)
  try simp only [Act.put, List.getElem_toArray, List.getElem_cons_zero, List.getElem_cons_succ, List.setIfInBounds_toArray, List.set_cons_zero, List.set_cons_succ]
  refine Tail.take (i := 7) (v := ?vq4) rfl (by kernel_rfl) (by kernel_rfl) (by kernel_rfl) (by kernel_rfl) (by kernel_rfl) (fun _ _ _ h => h) (Or.inl ⟨by rfl, ?hyq4⟩) (by assumption) ?restq4
  case hyq4 => (intro w1 hS; go_simp <;> with_reducible rfl)
  try simp only [Act.put, List.getElem_toArray, List.getElem_cons_zero, List.getElem_cons_succ, List.setIfInBounds_toArray, List.set_cons_zero, List.set_cons_succ]
  refine Tail.take (i := 8) (v := ?vq5) rfl (by kernel_rfl) (by kernel_rfl) (by kernel_rfl) (by kernel_rfl) (by kernel_rfl) (fun _ _ _ h => h) (Or.inl ⟨by rfl, ?hyq5⟩) (by assumption) ?restq5
  case hyq5 => (intro w1 hS; go_simp <;> with_reducible rfl)
  try simp only [Act.put, List.getElem_toArray, List.getElem_cons_zero, List.getElem_cons_succ, List.setIfInBounds_toArray, List.set_cons_zero, List.set_cons_succ]
  refine Tail.take (i := 11) (v := ?vq6) rfl (by kernel_rfl) (by kernel_rfl) (by kernel_rfl) (by kernel_rfl) (by kernel_rfl) (fun _ _ _ h => h) (Or.inl ⟨by rfl, ?hyq6⟩) (by assumption) ?restq6
  case hyq6 => (intro w1 hS; go_simp <;> with_reducible rfl)
  try simp only [Act.put, List.getElem_toArray, List.getElem_cons_zero, List.getElem_cons_succ, List.setIfInBounds_toArray, List.set_cons_zero, List.set_cons_succ]
  refine Tail.take (i := 12) (v := ?vq7) rfl (by kernel_rfl) (by kernel_rfl) (by kernel_rfl) (by kernel_rfl) (by kernel_rfl) (fun _ _ _ h => h) (Or.inl ⟨by rfl, ?hyq7⟩) (by assumption) ?restq7
  case hyq7 => (intro w1 hS; go_simp <;> with_reducible rfl)
  try simp only [Act.put, List.getElem_toArray, List.getElem_cons_zero, List.getElem_cons_succ, List.setIfInBounds_toArray, List.set_cons_zero, List.set_cons_succ]
  refine Tail.take (i := 13) (v := ?vq8) rfl (by kernel_rfl) (by kernel_rfl) (by kernel_rfl) (by kernel_rfl) (by kernel_rfl) (fun _ _ _ h => h) (Or.inl ⟨by rfl, ?hyq8⟩) (by assumption) ?restq8
  case hyq8 => (intro w1 hS; go_simp <;> with_reducible rfl)
  try simp only [Act.put, List.getElem_toArray, List.getElem_cons_zero, List.getElem_cons_succ, List.setIfInBounds_toArray, List.set_cons_zero, List.set_cons_succ]
  refine Tail.take (i := 14) (v := ?vq9) rfl (by kernel_rfl) (by kernel_rfl) (by kernel_rfl) (by kernel_rfl) (by kernel_rfl) (fun _ _ _ h => h) (Or.inl ⟨by rfl, ?hyq9⟩) (by assumption) ?restq9
  case hyq9 => (intro w1 hS; go_simp <;> with_reducible rfl)
  try simp only [Act.put, List.getElem_toArray, List.getElem_cons_zero, List.getElem_cons_succ, List.setIfInBounds_toArray, List.set_cons_zero, List.set_cons_succ]
  refine Tail.take (i := 15) (v := ?vq10) rfl (by kernel_rfl) (by kernel_rfl) (by kernel_rfl) (by kernel_rfl) (by kernel_rfl) (fun _ _ _ h => h) (Or.inl ⟨by rfl, ?hyq10⟩) (by assumption) ?restq10
  case hyq10 => (intro w1 hS; go_simp <;> with_reducible rfl)
  try simp only [Act.put, List.getElem_toArray, List.getElem_cons_zero, List.getElem_cons_succ, List.setIfInBounds_toArray, List.set_cons_zero, List.set_cons_succ]
  refine Tail.take (i := 16) (v := ?vq11) rfl (by kernel_rfl) (by kernel_rfl) (by kernel_rfl) (by kernel_rfl) (by kernel_rfl) (fun _ _ _ h => h) (Or.inl ⟨by rfl, ?hyq11⟩) (by assumption) ?restq11
  case hyq11 => (intro w1 hS; go_simp <;> with_reducible rfl)
  try simp only [Act.put, List.getElem_toArray, List.getElem_cons_zero, List.getElem_cons_succ, List.setIfInBounds_toArray, List.set_cons_zero, List.set_cons_succ]
  refine Tail.take (i := 17) (v := ?vq12) rfl (by kernel_rfl) (by kernel_rfl) (by kernel_rfl) (by kernel_rfl) (by kernel_rfl) (fun _ _ _ h => h) (Or.inl ⟨by rfl, ?hyq12⟩) (by assumption) ?restq12
  case hyq12 => (intro w1 hS; go_simp <;> with_reducible rfl)
  try simp only [Act.put, List.getElem_toArray, List.getElem_cons_zero, List.getElem_cons_succ, List.setIfInBounds_toArray, List.set_cons_zero, List.set_cons_succ]
  refine Tail.take (i := 18) (v := ?vq13) rfl (by kernel_rfl) (by kernel_rfl) (by kernel_rfl) (by kernel_rfl) (by kernel_rfl) (fun _ _ _ h => h) (Or.inl ⟨by rfl, ?hyq13⟩) (by assumption) ?restq13
  case hyq13 => (intro w1 hS; go_simp <;> with_reducible rfl)
  try simp only [Act.put, List.getElem_toArray, List.getElem_cons_zero, List.getElem_cons_succ, List.setIfInBounds_toArray, List.set_cons_zero, List.set_cons_succ]
  refine Tail.take (i := 20) (v := ?vq14) rfl (by kernel_rfl) (by kernel_rfl) (by kernel_rfl) (by kernel_rfl) (by kernel_rfl) (fun _ _ _ h => h) (Or.inl ⟨by rfl, ?hyq14⟩) (by assumption) ?restq14
  case hyq14 => (intro w1 hS; go_simp <;> with_reducible rfl)
  try simp only [Act.put, List.getElem_toArray, List.getElem_cons_zero, List.getElem_cons_succ, List.setIfInBounds_toArray, List.set_cons_zero, List.set_cons_succ]
  refine Tail.take (i := 21) (v := ?vq15) rfl (by kernel_rfl) (by kernel_rfl) (by kernel_rfl) (by kernel_rfl) (by kernel_rfl) (fun _ _ _ h => h) (Or.inl ⟨by rfl, ?hyq15⟩) (by assumption) ?restq15
  case hyq15 => (intro w1 hS; go_simp <;> with_reducible rfl)
  try simp only [Act.put, List.getElem_toArray, List.getElem_cons_zero, List.getElem_cons_succ, List.setIfInBounds_toArray, List.set_cons_zero, List.set_cons_succ]
  refine Tail.take (i := 22) (v := ?vq16) rfl (by kernel_rfl) (by kernel_rfl) (by kernel_rfl) (by kernel_rfl) (by kernel_rfl) (fun _ _ _ h => h) (Or.inl ⟨by rfl, ?hyq16⟩) (by assumption) ?restq16
  case hyq16 => (intro w1 hS; go_simp <;> with_reducible rfl)
  try simp only [Act.put, List.getElem_toArray, List.getElem_cons_zero, List.getElem_cons_succ, List.setIfInBounds_toArray, List.set_cons_zero, List.set_cons_succ]
  refine Tail.take (i := 25) (v := ?vq17) rfl (by kernel_rfl) (by kernel_rfl) (by kernel_rfl) (by kernel_rfl) (by kernel_rfl) (fun _ _ _ h => h) (Or.inl ⟨by rfl, ?hyq17⟩) (by assumption) ?restq17
  case hyq17 => (intro w1 hS; go_simp <;> with_reducible rfl)
  try simp only [Act.put, List.getElem_toArray, List.getElem_cons_zero, List.getElem_cons_succ, List.setIfInBounds_toArray, List.set_cons_zero, List.set_cons_succ]
  refine Tail.take (i := 26) (v := ?vq18) rfl (by kernel_rfl) (by kernel_rfl) (by kernel_rfl) (by kernel_rfl) (by kernel_rfl) (fun _ _ _ h => h) (Or.inl ⟨by rfl, ?hyq18⟩) (by assumption) ?restq18
  case hyq18 => (intro w1 hS; go_simp <;> with_reducible rfl)
  try simp only [Act.put, List.getElem_toArray, List.getElem_cons_zero, List.getElem_cons_succ, List.setIfInBounds_toArray, List.set_cons_zero, List.set_cons_succ]
  refine Tail.take (i := 27) (v := ?vq19) rfl (by kernel_rfl) (by kernel_rfl) (by kernel_rfl) (by kernel_rfl) (by kernel_rfl) (fun _ _ _ h => h) (Or.inl ⟨by rfl, ?hyq19⟩) (by assumption) ?restq19
  case hyq19 => (intro w1 hS; go_simp <;> with_reducible rfl)
  try simp only [Act.put, List.getElem_toArray, List.getElem_cons_zero, List.getElem_cons_succ, List.setIfInBounds_toArray, List.set_cons_zero, List.set_cons_succ]
  refine Tail.take (i := 28) (v := ?vq20) rfl (by kernel_rfl) (by kernel_rfl) (by kernel_rfl) (by kernel_rfl) (by kernel_rfl) (fun _ _ _ h => h) (Or.inl ⟨by rfl, ?hyq20⟩) (by assumption) ?restq20
  case hyq20 => (intro w1 hS; go_simp <;> with_reducible rfl)
  try simp only [Act.put, List.getElem_toArray, List.getElem_cons_zero, List.getElem_cons_succ, List.setIfInBounds_toArray, List.set_cons_zero, List.set_cons_succ]
  refine Inv.inv (fuel := 1) (T := [(0, 28), (3, 31), (4, 32), (5, 33), (9, 37), (10, 38), (19, 47), (23, 51), (24, 52), (29, 57), (30, 9)]) (F := fstF w un fm ve lo fi wa u5 u4 u2) (W := fun w1 => Blk w.heap.size 24 [.slice A m cap] w1 ∧ Blk (w.heap.size + 1) 35 mz w1 ∧ Below w.heap.size w w1 ∧ w.heap.size + 2 ≤ w1.heap.size) (by kernel_rfl) (by kernel_rfl) (by kernel_rfl) rfl (fun w1 w2 hb h => ⟨h.1.keep hb, h.2.1.keep hb, h.2.2.1.trans (hb.mono h.2.2.1.size), Nat.le_trans h.2.2.2 hb.size⟩) (fun _ _ hb _ _ h => fstF_keep hb h) ?_ ?_ _ ⟨hnX, hrX, hlX, hsX⟩
  · show ∀ i ∈ [0, 3, 4, 5, 9, 10, 19, 23, 24, 29, 30], _
    simp only [List.forall_mem_cons]
    refine ⟨?s0, ?s3, ?s4, ?s5, ?s9, ?s10, ?s19, ?s23, ?s24, ?s29, ?s30, fun _ h => by cases h⟩
    case s0 =>
      intro a w1 hf hW hD
      exact ⟨_, _, w1.alloc (.cells #[.int .i64 1000, .int .i64 2048, .int .i64 16, .int .i64 16384, .int .i64 1024] 3), rfl, rfl, by kernel_rfl, bel_made _ _ _, ⟨_, rfl, Blk.new_ w1 #[.int .i64 1000, .int .i64 2048, .int .i64 16, .int .i64 16384, .int .i64 1024] 3⟩⟩
    case s3 =>
      intro a w1 hf hW hD
      obtain ⟨_, e1, g, rfl, hb⟩ := hD 0 (by kernel_rfl) 28 (by simp)
      have k1 := Inv.eval_of e1
      have k2 := hf.eval (s := 30) (by kernel_rfl)
      replace k2 := k2.trans (show _ = Value.int .u32 u5 from rfl)
      refine ⟨_, .pointer (some ⟨g, u5, none⟩), w1, rfl, rfl, ?_, Below.refl _ _, ⟨g, rfl, hb⟩⟩
      simp only [List.getElem_toArray, List.getElem_cons_zero, List.getElem_cons_succ]
      simp only [execOp, k1, k2]
      clear hD hf hW
      go_simp
    case s4 =>
      intro a w1 hf hW hD
      obtain ⟨_, e1, g, rfl, hb⟩ := hD 3 (by kernel_rfl) 31 (by simp)
      have k1 := Inv.eval_of e1
      have c1 := hb.cell hun
      refine ⟨_, .int .i64 un, w1, rfl, rfl, ?_, Below.refl _ _, rfl⟩
      simp only [List.getElem_toArray, List.getElem_cons_zero, List.getElem_cons_succ]
      simp only [execOp, k1]
      clear hD hf hW
      go_simp
    case s5 =>
      intro a w1 hf hW hD
      exact ⟨_, _, w1.alloc (.cells #[.int .i64 4, .int .i64 12, .int .i64 6, .int .i64 0] 3), rfl, rfl, by kernel_rfl, bel_made _ _ _, ⟨_, rfl, Blk.new_ w1 #[.int .i64 4, .int .i64 12, .int .i64 6, .int .i64 0] 3⟩⟩
    case s9 =>
      intro a w1 hf hW hD
      obtain ⟨_, e1, g, rfl, hb⟩ := hD 5 (by kernel_rfl) 33 (by simp)
      have k1 := Inv.eval_of e1
      have k2 := hf.eval (s := 36) (by kernel_rfl)
      replace k2 := k2.trans (show _ = Value.int .u32 u4 from rfl)
      refine ⟨_, .pointer (some ⟨g, u4, none⟩), w1, rfl, rfl, ?_, Below.refl _ _, ⟨g, rfl, hb⟩⟩
      simp only [List.getElem_toArray, List.getElem_cons_zero, List.getElem_cons_succ]
      simp only [execOp, k1, k2]
      clear hD hf hW
      go_simp
    case s10 =>
      intro a w1 hf hW hD
      obtain ⟨_, e1, g, rfl, hb⟩ := hD 9 (by kernel_rfl) 37 (by simp)
      have k1 := Inv.eval_of e1
      have c1 := hb.cell hfm
      refine ⟨_, .int .i64 fm, w1, rfl, rfl, ?_, Below.refl _ _, rfl⟩
      simp only [List.getElem_toArray, List.getElem_cons_zero, List.getElem_cons_succ]
      simp only [execOp, k1]
      clear hD hf hW
      go_simp
    case s19 =>
      intro a w1 hf hW hD
      exact ⟨_, _, w1.alloc (.cells #[.int .i64 196608, .int .i64 131072] 3), rfl, rfl, by kernel_rfl, bel_made _ _ _, ⟨_, rfl, Blk.new_ w1 #[.int .i64 196608, .int .i64 131072] 3⟩⟩
    case s23 =>
      intro a w1 hf hW hD
      obtain ⟨_, e1, g, rfl, hb⟩ := hD 19 (by kernel_rfl) 47 (by simp)
      have k1 := Inv.eval_of e1
      have k2 := hf.eval (s := 50) (by kernel_rfl)
      replace k2 := k2.trans (show _ = Value.int .u32 u2 from rfl)
      refine ⟨_, .pointer (some ⟨g, u2, none⟩), w1, rfl, rfl, ?_, Below.refl _ _, ⟨g, rfl, hb⟩⟩
      simp only [List.getElem_toArray, List.getElem_cons_zero, List.getElem_cons_succ]
      simp only [execOp, k1, k2]
      clear hD hf hW
      go_simp
    case s24 =>
      intro a w1 hf hW hD
      obtain ⟨_, e1, g, rfl, hb⟩ := hD 23 (by kernel_rfl) 51 (by simp)
      have k1 := Inv.eval_of e1
      have c1 := hb.cell hve
      refine ⟨_, .int .i64 ve, w1, rfl, rfl, ?_, Below.refl _ _, rfl⟩
      simp only [List.getElem_toArray, List.getElem_cons_zero, List.getElem_cons_succ]
      simp only [execOp, k1]
      clear hD hf hW
      go_simp
    case s29 =>
      intro a w1 hf hW hD
      obtain ⟨_, e4, rfl⟩ := hD 4 (by kernel_rfl) 32 (by simp)
      have k4 := Inv.eval_of e4
      obtain ⟨_, e10, rfl⟩ := hD 10 (by kernel_rfl) 38 (by simp)
      have k10 := Inv.eval_of e10
      obtain ⟨_, e24, rfl⟩ := hD 24 (by kernel_rfl) 52 (by simp)
      have k24 := Inv.eval_of e24
      have k42 := (hf.eval (s := 42) (by kernel_rfl)).trans (show _ = Value.bool lo from rfl)
      have k46 := (hf.eval (s := 46) (by kernel_rfl)).trans (show _ = Value.int .i64 wa from rfl)
      have k56 := (hf.eval (s := 56) (by kernel_rfl)).trans (show _ = Value.bool fi from rfl)
      refine ⟨_, .agg (mc un (.slice none 0 0) (.slice none 0 0) (.slice none 0 0) 0 (.slice none 0 0) fm lo (.slice none 0 0) (.slice none 0 0) ve fi (.slice none 0 0) wa).toArray, w1, rfl, rfl, ?_, Below.refl _ _, rfl⟩
      simp only [List.getElem_toArray, List.getElem_cons_zero, List.getElem_cons_succ]
      simp only [execOp, List.map_toArray, List.map_cons, List.map_nil, k4, k10, k24, k42, k46, k56]
      kernel_rfl
    case s30 =>
      intro a w1 hf hW hD
      exact ⟨_, _, w1.alloc (.cells mz.toArray 35), rfl, rfl, by kernel_rfl, bel_made _ _ _, ⟨_, rfl, Blk.new_ w1 mz.toArray 35, hW.2.2.2⟩⟩
  · intro a w1 hf hW hD
    obtain ⟨v0, e0, _⟩ := hD 0 28 (by simp)
    obtain ⟨v3, e3, _⟩ := hD 3 31 (by simp)
    obtain ⟨_, e4, rfl⟩ := hD 4 32 (by simp)
    obtain ⟨v5, e5, _⟩ := hD 5 33 (by simp)
    obtain ⟨v9, e9, _⟩ := hD 9 37 (by simp)
    obtain ⟨_, e10, rfl⟩ := hD 10 38 (by simp)
    obtain ⟨v19, e19, _⟩ := hD 19 47 (by simp)
    obtain ⟨v23, e23, _⟩ := hD 23 51 (by simp)
    obtain ⟨_, e24, rfl⟩ := hD 24 52 (by simp)
    obtain ⟨_, e29, rfl⟩ := hD 29 57 (by simp)
    obtain ⟨_, e30, g30, rfl, b30, hg30⟩ := hD 30 9 (by simp)
    have hfe := Inv.Fr.eqt [(28, v0), (31, v3), (32, .int .i64 un), (33, v5), (37, v9), (38, .int .i64 fm), (47, v19), (51, v23), (52, .int .i64 ve), (57, .agg (mc un (.slice none 0 0) (.slice none 0 0) (.slice none 0 0) 0 (.slice none 0 0) fm lo (.slice none 0 0) (.slice none 0 0) ve fi (.slice none 0 0) wa).toArray), (9, .pointer (some ⟨g30, 0, none⟩))] _ a (fun s hs => hs) hf (by simp only [List.forall_mem_cons]; exact ⟨e0, e3, e4, e5, e9, e10, e19, e23, e24, e29, e30, fun _ h => by cases h⟩)
    clear hf hD e0 e3 e4 e5 e9 e10 e19 e23 e24 e29 e30
    subst hfe
    rw [List.foldl_cons]
    simp only [List.setIfInBounds_toArray, List.set_cons_zero, List.set_cons_succ]
    rw [List.foldl_cons]
    simp only [List.setIfInBounds_toArray, List.set_cons_zero, List.set_cons_succ]
    rw [List.foldl_cons]
    simp only [List.setIfInBounds_toArray, List.set_cons_zero, List.set_cons_succ]
    rw [List.foldl_cons]
    simp only [List.setIfInBounds_toArray, List.set_cons_zero, List.set_cons_succ]
    rw [List.foldl_cons]
    simp only [List.setIfInBounds_toArray, List.set_cons_zero, List.set_cons_succ]
    rw [List.foldl_cons]
    simp only [List.setIfInBounds_toArray, List.set_cons_zero, List.set_cons_succ]
    rw [List.foldl_cons]
    simp only [List.setIfInBounds_toArray, List.set_cons_zero, List.set_cons_succ]
    rw [List.foldl_cons]
    simp only [List.setIfInBounds_toArray, List.set_cons_zero, List.set_cons_succ]
    rw [List.foldl_cons]
    simp only [List.setIfInBounds_toArray, List.set_cons_zero, List.set_cons_succ]
    rw [List.foldl_cons]
    simp only [List.setIfInBounds_toArray, List.set_cons_zero, List.set_cons_succ]
    rw [List.foldl_cons]
    simp only [List.setIfInBounds_toArray, List.set_cons_zero, List.set_cons_succ]
    rw [List.foldl_nil]
    obtain ⟨hnX1, hrX1, hlX1, hsX1⟩ := hW
    refine Tail.ready (rs := [31]) (by kernel_rfl) (by simp) (Tail.AllReadyL.last rfl (by rfl) (fun K hK => ?_) Tail.AllReadyL.nil)
    refine step_store_row rfl 35 (.tmp 9) (.tmp 57) rfl g30 (mc un (.slice none 0 0) (.slice none 0 0) (.slice none 0 0) 0 (.slice none 0 0) fm lo (.slice none 0 0) (.slice none 0 0) ve fi (.slice none 0 0) wa).toArray rfl rfl 35 mz b30 (by kernel_rfl) (by kernel_rfl) (by kernel_rfl) ?_
    refine hK.out _ _ ?_
    clear hK K
    try simp only [Act.put, List.getElem_toArray, List.getElem_cons_zero, List.getElem_cons_succ, List.setIfInBounds_toArray, List.set_cons_zero, List.set_cons_succ]
    refine Tail.done (by kernel_rfl) ?_ _
    have hkF : Kc w g30 (mc un (.slice none 0 0) (.slice none 0 0) (.slice none 0 0) 0 (.slice none 0 0) fm lo (.slice none 0 0) (.slice none 0 0) ve fi (.slice none 0 0) wa) A m cap (w1.setRow g30 (mc un (.slice none 0 0) (.slice none 0 0) (.slice none 0 0) 0 (.slice none 0 0) fm lo (.slice none 0 0) (.slice none 0 0) ve fi (.slice none 0 0) wa).toArray) := ⟨blk_row b30 _, blk_row_other hnX1 _ (by omega), blk_row_other hrX1 _ (by omega), hg30, bel_row hlX1 (by omega)⟩
    obtain ⟨W9, hW9⟩ : ∃ W, W = w1.setRow g30 (mc un (.slice none 0 0) (.slice none 0 0) (.slice none 0 0) 0 (.slice none 0 0) fm lo (.slice none 0 0) (.slice none 0 0) ve fi (.slice none 0 0) wa).toArray := ⟨_, rfl⟩
    rw [← hW9] at hkF
    try rw [← hW9]
    clear hW9 b30 hnX1 hrX1 hlX1 hsX1 hHeld hg30
    repeat (first | ((with_reducible refine Gate.seq ?_); refine r3 f wa A m cap g30 ms (mc un (.slice none 0 0) (.slice none 0 0) (.slice none 0 0) 0 (.slice none 0 0) fm lo (.slice none 0 0) (.slice none 0 0) ve fi (.slice none 0 0) wa) w _ _ _ (by kernel_rfl) (by exact ⟨rfl, rfl, rfl, rfl, rfl, rfl, rfl⟩) hf0 rfl rfl rfl rfl rfl SA l lc ss HLL.out hl2 hlc HSS.out HSH.out rfl rfl HS.out hkF (by intro u hu; simp [mc] at hu; rcases hu with rfl | rfl | rfl | rfl | rfl | rfl | rfl | rfl | rfl | rfl | rfl | rfl | rfl | rfl | rfl | rfl | rfl | rfl | rfl | rfl | rfl | rfl | rfl | rfl | rfl | rfl | rfl | rfl <;> rfl) rfl rfl rfl) | go_values | go_skip | go_guarded | go_step | go_upon | go_back | go_simp)
end Go.Proofs.YtdeaodgcdacleaaDoor.MadB
