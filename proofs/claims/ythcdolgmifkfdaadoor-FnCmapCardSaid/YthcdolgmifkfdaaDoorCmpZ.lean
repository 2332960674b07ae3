/- Runs of letters of a table of format 4: what they say of each letter. No function of the program in sight. -/
import Derived.Test.YthcdolgmifkfdaaDoorCmpR
import Derived.Test.YthcdolgmifkfdaaDoorCmpL
namespace Go.Proofs.YthcdolgmifkfdaaDoor.CmpZ
open Go.RowKit
open Lst SpecB GlyM CadL FourB CmpL CmpQ CmpR
set_option linter.unusedSimpArgs false
set_option linter.unusedVariables false
/-- the runs of the first k letters: last, first, what is added, which glyph (none: -1) -/
structure Rn (ps : List Pr) (k : Nat) (S : List Sg4) (gl : List Int) : Prop where
  len : S.length ≤ k
  gll : gl.length ≤ k
  glb : ∀ x ∈ gl, 1 ≤ x ∧ x ≤ 9
  rng : ∀ h, h < S.length → 0 ≤ (S.getD h d4).2.1 ∧ (S.getD h d4).2.1 ≤ (S.getD h d4).1 ∧ (S.getD h d4).1 < 65520 ∧ (-65520 < (S.getD h d4).2.2.1 ∧ (S.getD h d4).2.2.1 ≤ 9) ∧ (-1 ≤ (S.getD h d4).2.2.2 ∧ (S.getD h d4).2.2.2 ≤ k)
  asc : ∀ i j, i < j → j < S.length → (S.getD i d4).1 < (S.getD j d4).2.1
  bel : ∀ h, h < S.length → ∀ i, k ≤ i → i < ps.length → (S.getD h d4).1 < (ps.getD i (0, 0)).1
  cov : ∀ i, i < k → ∃ h, h < S.length ∧ (S.getD h d4).2.1 ≤ (ps.getD i (0, 0)).1 ∧ (ps.getD i (0, 0)).1 ≤ (S.getD h d4).1
  val : ∀ h, h < S.length → ∀ r, (S.getD h d4).2.1 ≤ r → r ≤ (S.getD h d4).1 → ∃ i, i < k ∧ (ps.getD i (0, 0)).1 = r ∧
    (((S.getD h d4).2.2.2 = -1 ∧ (ps.getD i (0, 0)).2 = r + (S.getD h d4).2.2.1) ∨ (0 ≤ (S.getD h d4).2.2.2 ∧ ∃ t : Nat, t < gl.length ∧ (S.getD h d4).2.2.2 + (r - (S.getD h d4).2.1) = (t : Int) ∧ gl.getD t 0 = (ps.getD i (0, 0)).2))
theorem Rn.nil_ (ps : List Pr) : Rn ps 0 [] [] := by
  refine ⟨Nat.le_refl _, Nat.le_refl _, ?_, ?_, ?_, ?_, ?_, ?_⟩
  · intro x h; cases h
  · intro h hh; exact absurd hh (Nat.not_lt_zero _)
  · intro i j _ hj; exact absurd hj (Nat.not_lt_zero _)
  · intro h hh; exact absurd hh (Nat.not_lt_zero _)
  · intro i hi; exact absurd hi (Nat.not_lt_zero _)
  · intro h hh; exact absurd hh (Nat.not_lt_zero _)
/-- letters rise -/
def Up (ps : List Pr) : Prop := ∀ i j, i < j → j < ps.length → (ps.getD i (0, 0)).1 < (ps.getD j (0, 0)).1
def Bd (ps : List Pr) : Prop := ∀ i, i < ps.length → (0 ≤ (ps.getD i (0, 0)).1 ∧ (ps.getD i (0, 0)).1 < 65520) ∧ (1 ≤ (ps.getD i (0, 0)).2 ∧ (ps.getD i (0, 0)).2 ≤ 9)
theorem getD_l {α : Type} {S T : List α} {d : α} {h : Nat} (hh : h < S.length) : (S ++ T).getD h d = S.getD h d := by
  rw [List.getD_eq_getElem?_getD, List.getElem?_append_left hh, ← List.getD_eq_getElem?_getD]
theorem getD_e {α : Type} {S : List α} {d x : α} : (S ++ [x]).getD S.length d = x := by
  rw [List.getD_eq_getElem?_getD, List.getElem?_append_right (Nat.le_refl _), Nat.sub_self]; rfl
theorem getD_r {α : Type} {S T : List α} {d : α} {t : Nat} : (S ++ T).getD (S.length + t) d = T.getD t d := by
  rw [List.getD_eq_getElem?_getD, List.getElem?_append_right (by omega), ← List.getD_eq_getElem?_getD, show S.length + t - S.length = t by omega]
/-- one more run -/
theorem Rn.step {ps : List Pr} {k j : Nat} {S : List Sg4} {gl g2 : List Int} {q : Sg4} (h : Rn ps k S gl) (hup : Up ps) (hbd : Bd ps) (hkj : k ≤ j) (hj : j < ps.length)
    (hrun : ∀ i, k ≤ i → i ≤ j → (ps.getD i (0, 0)).1 = (ps.getD k (0, 0)).1 + ((i : Int) - (k : Int))) (h1 : q.1 = (ps.getD j (0, 0)).1) (h2 : q.2.1 = (ps.getD k (0, 0)).1)
    (hg2 : g2.length ≤ j + 1 - k) (hg2b : ∀ x ∈ g2, 1 ≤ x ∧ x ≤ 9) (hq3 : -65520 < q.2.2.1 ∧ q.2.2.1 ≤ 9) (hq4 : -1 ≤ q.2.2.2 ∧ q.2.2.2 ≤ gl.length)
    (hv : ∀ i, k ≤ i → i ≤ j → (q.2.2.2 = -1 ∧ (ps.getD i (0, 0)).2 = (ps.getD i (0, 0)).1 + q.2.2.1) ∨ (q.2.2.2 = gl.length ∧ i - k < g2.length ∧ g2.getD (i - k) 0 = (ps.getD i (0, 0)).2)) :
    Rn ps (j + 1) (S ++ [q]) (gl ++ g2) := by
  have hk := (hbd k (by omega)).1
  have hjb := (hbd j hj).1
  have hkjr := hrun j hkj (Nat.le_refl _)
  have hc : ∀ t, t < (S ++ [q]).length → (t < S.length ∧ (S ++ [q]).getD t d4 = S.getD t d4) ∨ (t = S.length ∧ (S ++ [q]).getD t d4 = q) := fun t ht => by
    rw [List.length_append, List.length_singleton] at ht
    rcases Nat.lt_or_ge t S.length with h' | h'
    · exact .inl ⟨h', getD_l h'⟩
    · obtain rfl : t = S.length := by omega
      exact .inr ⟨rfl, getD_e⟩
  have hgll := h.gll
  refine ⟨?_, ?_, ?_, ?_, ?_, ?_, ?_, ?_⟩
  · rw [List.length_append, List.length_singleton]; have := h.len; omega
  · rw [List.length_append]; omega
  · intro x hx
    rcases List.mem_append.1 hx with hx | hx
    · exact h.glb x hx
    · exact hg2b x hx
  · intro t ht
    rcases hc t ht with ⟨h', e⟩ | ⟨h', e⟩ <;> rw [e]
    · have := h.rng t h'; omega
    · rw [h1, h2]; omega
  · intro a b hab hb
    rcases hc b hb with ⟨h', e⟩ | ⟨h', e⟩
    · rcases hc a (by omega) with ⟨h3, e3⟩ | ⟨h3, e3⟩
      · rw [e, e3]; exact h.asc a b hab h'
      · omega
    · rcases hc a (by omega) with ⟨h3, e3⟩ | ⟨h3, e3⟩
      · rw [e, e3, h2]; exact h.bel a h3 k (Nat.le_refl _) (by omega)
      · omega
  · intro t ht i hi hil
    rcases hc t ht with ⟨h', e⟩ | ⟨h', e⟩ <;> rw [e]
    · exact h.bel t h' i (by omega) hil
    · rw [h1]; exact hup j i (by omega) hil
  · intro i hi
    rcases Nat.lt_or_ge i k with hik | hik
    · obtain ⟨t, ht, a, b⟩ := h.cov i hik
      exact ⟨t, by rw [List.length_append]; omega, by rw [getD_l ht]; exact a, by rw [getD_l ht]; exact b⟩
    · refine ⟨S.length, by rw [List.length_append, List.length_singleton]; omega, ?_, ?_⟩ <;> rw [getD_e]
      · rw [h2, hrun i hik (by omega)]; omega
      · rw [h1, hkjr, hrun i hik (by omega)]; omega
  · intro t ht r
    rcases hc t ht with ⟨h', e⟩ | ⟨h', e⟩ <;> rw [e]
    · intro ra rb
      obtain ⟨i, hi, e1, e2⟩ := h.val t h' r ra rb
      refine ⟨i, by omega, e1, ?_⟩
      rcases e2 with e2 | ⟨e2, u, hu, e3, e4⟩
      · exact .inl e2
      · exact .inr ⟨e2, u, by rw [List.length_append]; omega, e3, by rw [getD_l hu]; exact e4⟩
    · intro ra rb
      rw [h1] at rb
      rw [h2] at ra
      obtain ⟨d, hd⟩ : ∃ d : Nat, r = (ps.getD k (0, 0)).1 + (d : Int) := ⟨(r - (ps.getD k (0, 0)).1).toNat, by omega⟩
      have hdj : k + d ≤ j := by omega
      have hr := hrun (k + d) (by omega) hdj
      have hr' : (ps.getD (k + d) (0, 0)).1 = r := by rw [hr, hd]; omega
      refine ⟨k + d, by omega, hr', ?_⟩
      rcases hv (k + d) (by omega) hdj with ⟨e1, e2⟩ | ⟨e1, e2, e3⟩
      · exact .inl ⟨e1, by rw [e2, hr']⟩
      · refine .inr ⟨by omega, gl.length + d, by rw [List.length_append]; omega, by rw [e1, h2, hd]; omega, ?_⟩
        rw [getD_r, ← e3, show k + d - k = d by omega]
/-- the runs as the table has them -/
def sg1 (m h : Nat) (q : Sg4) : Sg4 := (q.1, q.2.1, q.2.2.1 % 65536, if q.2.2.2 < 0 then 0 else 2 * ((m : Int) - (h : Int)) + 2 * q.2.2.2)
def sgs (S : List Sg4) : List Sg4 := (List.range S.length).map fun (h : Nat) => sg1 S.length h (S.getD h d4)
theorem sgs_len (S : List Sg4) : (sgs S).length = S.length := by simp [sgs]
theorem sgs_get (S : List Sg4) (h : Nat) (hh : h < S.length) : (sgs S).getD h d4 = sg1 S.length h (S.getD h d4) := by
  rw [sgs, List.getD_eq_getElem?_getD, List.getElem?_map, List.getElem?_range hh]
  rfl
def Sx (S : List Sg4) : List Sg4 := S ++ [(65535, 65535, 1, -1)]
theorem look_at {ps : List Pr} (hup : Up ps) {i : Nat} {r : Int} (hi : i < ps.length) (h : (ps.getD i (0, 0)).1 = r) : CmpL.look ps r = (ps.getD i (0, 0)).2 :=
  look_hit ps i r hi (fun t ht e => by have := hup t i ht hi; omega) h
theorem Rn.ok {ps : List Pr} {S : List Sg4} {gl : List Int} (h : Rn ps ps.length S gl) (h40 : ps.length ≤ 40) : Ok4 (sgs (Sx S)) := by
  have hl : (Sx S).length = S.length + 1 := by simp [Sx]
  have hlen := h.len
  have hc : ∀ t, t < S.length + 1 → (t < S.length ∧ (Sx S).getD t d4 = S.getD t d4) ∨ (t = S.length ∧ (Sx S).getD t d4 = (65535, 65535, 1, -1)) := fun t ht => by
    rcases Nat.lt_or_ge t S.length with h' | h'
    · exact .inl ⟨h', getD_l h'⟩
    · obtain rfl : t = S.length := by omega
      exact .inr ⟨rfl, getD_e⟩
  have hm : ∀ q ∈ sgs (Sx S), ∃ t, t < S.length + 1 ∧ q = sg1 (S.length + 1) t ((Sx S).getD t d4) := fun q hq => by
    rw [sgs, List.mem_map] at hq
    obtain ⟨t, ht, rfl⟩ := hq
    rw [List.mem_range, hl] at ht
    rw [hl]
    exact ⟨t, ht, rfl⟩
  refine ⟨?_, ?_, ?_⟩
  · intro q hq
    obtain ⟨t, ht, rfl⟩ := hm q hq
    rcases hc t ht with ⟨h', e⟩ | ⟨h', e⟩ <;> rw [e]
    · have := h.rng t h'
      simp only [sg1]
      split <;> omega
    · simp only [sg1]
      simp
  · intro q hq
    obtain ⟨t, ht, rfl⟩ := hm q hq
    rcases hc t ht with ⟨h', e⟩ | ⟨h', e⟩ <;> rw [e]
    · have := h.rng t h'
      simp only [sg1]; omega
    · simp [sg1]
  · intro i j hij hj
    rw [sgs_len, hl] at hj
    rw [sgs_get _ _ (by omega), sgs_get _ _ (by omega)]
    rcases hc i (by omega) with ⟨h', e⟩ | ⟨h', e⟩
    · rcases hc j hj with ⟨h3, e3⟩ | ⟨h3, e3⟩ <;> rw [e, e3]
      · exact h.asc i j hij h3
      · have := h.rng i h'
        simp only [sg1]; omega
    · omega
theorem Rn.sem {ps : List Pr} {S : List Sg4} {gl : List Int} (h : Rn ps ps.length S gl) (hup : Up ps) (hbd : Bd ps) (h40 : ps.length ≤ 40) (r : Int) (hr : 0 ≤ r ∧ r ≤ 65535) : Sem4 (sgs (Sx S)) gl r (CmpL.look ps r) := by
  have hl : (Sx S).length = S.length + 1 := by simp [Sx]
  by_cases hx : ∃ t, t < S.length ∧ (S.getD t d4).2.1 ≤ r ∧ r ≤ (S.getD t d4).1
  · obtain ⟨t, ht, ra, rb⟩ := hx
    obtain ⟨i, hi, e1, e2⟩ := h.val t ht r ra rb
    have hrg := h.rng t ht
    have hib := (hbd i hi).2
    refine .inl ⟨t, by rw [sgs_len, hl]; omega, ?_⟩
    rw [sgs_get _ _ (by omega), sgs_len, hl, show (Sx S).getD t d4 = S.getD t d4 from getD_l ht, look_at hup hi e1]
    have hlen := h.len
    refine ⟨ra, rb, ?_⟩
    rcases e2 with ⟨e2, e3⟩ | ⟨e2, u, hu, e3, e4⟩
    · left
      simp only [sg1]
      rw [if_pos (by omega)]
      omega
    · right
      simp only [sg1]
      rw [if_neg (by omega)]
      exact ⟨by omega, u, hu, by omega, e4.symm⟩
  · have hno : ∀ i, i < ps.length → (ps.getD i (0, 0)).1 ≠ r := fun i hi e => by
      obtain ⟨t, ht, a, b⟩ := h.cov i hi
      exact hx ⟨t, ht, by omega, by omega⟩
    have hz := look_none ps r hno
    rw [hz]
    by_cases hr2 : r = 65535
    · left
      refine ⟨S.length, by rw [sgs_len, hl]; omega, ?_⟩
      rw [sgs_get _ _ (by omega), sgs_len, hl, show (Sx S).getD S.length d4 = (65535, 65535, 1, -1) from getD_e]
      subst hr2
      simp [sg1]
    · right
      refine ⟨fun t ht => ?_, rfl⟩
      rw [sgs_len, hl] at ht
      rw [sgs_get _ _ (by omega)]
      rcases Nat.lt_or_ge t S.length with h' | h'
      · rw [show (Sx S).getD t d4 = S.getD t d4 from getD_l h']
        simp only [sg1]
        have : ¬ ((S.getD t d4).2.1 ≤ r ∧ r ≤ (S.getD t d4).1) := fun ⟨a, b⟩ => hx ⟨t, h', a, b⟩
        omega
      · obtain rfl : t = S.length := by omega
        rw [show (Sx S).getD S.length d4 = (65535, 65535, 1, -1) from getD_e]
        simp only [sg1]
        omega
theorem words_mod (l : List Int) : words (l.map fun x => x % 65536) = words l := by
  induction l with
  | nil => rfl
  | cons x l ih =>
    rw [List.map_cons, show words (x % 65536 :: l.map fun x => x % 65536) = [hi (x % 65536), lo (x % 65536)] ++ words (l.map fun x => x % 65536) by simp [words], ih, show words (x :: l) = [hi x, lo x] ++ words l by simp [words]]
    congr 1
    simp only [hi, lo]
    congr 1
    · omega
    · congr 1
      omega
theorem range_get (S : List Sg4) (f : Sg4 → Int) : (List.range S.length).map (fun (h : Nat) => f (S.getD h d4)) = S.map f := by
  apply List.ext_getElem (by simp)
  intro i h1 h2
  have hi : i < S.length := by simpa using h1
  simp [List.getD_eq_getElem?_getD, List.getElem?_eq_getElem hi]
/-- words for places of glyphs -/
def offw (S : List Sg4) (k : Nat) : List Int := (List.range k).map fun (h : Nat) => (sg1 S.length h (S.getD h d4)).2.2.2
theorem offw_len (S : List Sg4) (k : Nat) : (offw S k).length = k := by simp [offw]
theorem offw_snoc (S : List Sg4) (k : Nat) : offw S (k + 1) = offw S k ++ [(sg1 S.length k (S.getD k d4)).2.2.2] := by simp [offw, List.range_succ]
theorem tab4_eq (hd : List Int) (S : List Sg4) (gl : List Int) : words (L4 hd (sgs S) gl) = words hd ++ words (S.map (·.1)) ++ [0, 0] ++ words (S.map (·.2.1)) ++ words (S.map (·.2.2.1)) ++ words (offw S S.length) ++ words gl := by
  have wa : ∀ a b : List Int, words (a ++ b) = words a ++ words b := fun a b => by simp [words]
  have e1 : (sgs S).map (·.1) = S.map (·.1) := by rw [sgs, List.map_map]; exact range_get S (·.1)
  have e2 : (sgs S).map (·.2.1) = S.map (·.2.1) := by rw [sgs, List.map_map]; exact range_get S (·.2.1)
  have e3 : (sgs S).map (·.2.2.1) = (S.map (·.2.2.1)).map fun x => x % 65536 := by rw [sgs, List.map_map, List.map_map]; exact range_get S (fun q => q.2.2.1 % 65536)
  have e4 : (sgs S).map (·.2.2.2) = offw S S.length := by rw [sgs, List.map_map]; rfl
  rw [L4, e1, e2, e3, e4, wa, wa, wa, wa, wa, wa, words_mod, show words [0] = [0, 0] from rfl]
  simp only [List.append_assoc]
end Go.Proofs.YthcdolgmifkfdaaDoor.CmpZ
