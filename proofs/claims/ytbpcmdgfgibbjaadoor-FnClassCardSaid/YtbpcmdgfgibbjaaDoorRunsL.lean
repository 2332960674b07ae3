/- Runs of neighbours in an ascending list, a glyph's place in it, and the numbers of two bytes that tell them. No function of the program in sight. -/
import Derived.Test.YtbpcmdgfgibbjaaDoorListB
namespace Go.Proofs.YtbpcmdgfgibbjaaDoor.RunsL
open Go.RowKit
open Lst Mem SpecB ListB

/-- the place of a number in a list's first elements, -1 for none -/
def placeTo (L : List Int) (g : Int) : Nat → Int
  | 0 => -1
  | k + 1 => if L.getD k 0 = g then (k : Int) else placeTo L g k
def place (L : List Int) (g : Int) : Int := placeTo L g L.length
theorem placeTo_none (L : List Int) (g : Int) (k : Nat) (h : ∀ t, t < k → L.getD t 0 ≠ g) : placeTo L g k = -1 := by
  induction k with
  | zero => rfl
  | succ k ih =>
    rw [placeTo, if_neg (h k (by omega))]
    exact ih fun t ht => h t (by omega)
theorem placeTo_at (L : List Int) (g : Int) (k t : Nat) (ht : t < k) (he : L.getD t 0 = g) (h : ∀ u, t < u → u < k → L.getD u 0 ≠ g) : placeTo L g k = (t : Int) := by
  induction k with
  | zero => omega
  | succ k ih =>
    rw [placeTo]
    by_cases hk : t = k
    · subst hk
      rw [if_pos he]
    · rw [if_neg (h k (by omega) (by omega))]
      exact ih (by omega) fun u hu hk => h u hu (by omega)
theorem placeTo_bd (L : List Int) (g : Int) (k : Nat) : -1 ≤ placeTo L g k ∧ placeTo L g k < (k : Int) := by
  induction k with
  | zero => simp [placeTo]
  | succ k ih =>
    rw [placeTo]
    by_cases hk : L.getD k 0 = g
    · rw [if_pos hk]; omega
    · rw [if_neg hk]; omega
theorem place_at {L : List Int} (ha : Asc L) {t : Nat} (ht : t < L.length) {g : Int} (he : L.getD t 0 = g) : place L g = (t : Int) :=
  placeTo_at L g _ t ht he fun u hu hk => by have := ha t u hu hk; omega
theorem place_none {L : List Int} {g : Int} (h : ∀ t, t < L.length → L.getD t 0 ≠ g) : place L g = -1 := placeTo_none L g _ h

def fst (P : List (Nat × Nat)) (i : Nat) : Nat := (P.getD i (0, 0)).1
def snd (P : List (Nat × Nat)) (i : Nat) : Nat := (P.getD i (0, 0)).2
/-- runs: each from a place to a place, of neighbours of one class; one behind the other; all places below k lie in one -/
def Runs (L : List Int) (C : Int → Int) (P : List (Nat × Nat)) (k : Nat) : Prop :=
  P.length ≤ k ∧ (∀ i, i < P.length → fst P i ≤ snd P i ∧ snd P i < k ∧ ∀ t, fst P i ≤ t → t ≤ snd P i → L.getD t 0 = L.getD (fst P i) 0 + ((t : Int) - (fst P i : Int)) ∧ C (L.getD t 0) = C (L.getD (fst P i) 0)) ∧
  (∀ i j, i < j → j < P.length → snd P i < fst P j) ∧ (∀ t, t < k → ∃ i, i < P.length ∧ fst P i ≤ t ∧ t ≤ snd P i)
theorem get_old (P : List (Nat × Nat)) (p : Nat × Nat) (i : Nat) (h : i < P.length) : fst (P ++ [p]) i = fst P i ∧ snd (P ++ [p]) i = snd P i := by
  simp [fst, snd, List.getD_eq_getElem?_getD, List.getElem?_append_left h]
theorem get_new (P : List (Nat × Nat)) (p : Nat × Nat) : fst (P ++ [p]) P.length = p.1 ∧ snd (P ++ [p]) P.length = p.2 := by
  simp [fst, snd, List.getD_eq_getElem?_getD]
theorem runs_nil (L : List Int) (C : Int → Int) : Runs L C [] 0 := ⟨Nat.le_refl _, fun i h => absurd h (by simp), fun i j _ h => absurd h (by simp), fun t h => absurd h (by omega)⟩
theorem runs_snoc {L : List Int} {C : Int → Int} {P : List (Nat × Nat)} {k j : Nat} (h : Runs L C P k) (hkj : k ≤ j) (hr : ∀ t, k ≤ t → t ≤ j → L.getD t 0 = L.getD k 0 + ((t : Int) - (k : Int)) ∧ C (L.getD t 0) = C (L.getD k 0)) : Runs L C (P ++ [(k, j)]) (j + 1) := by
  obtain ⟨h0, h1, h2, h3⟩ := h
  refine ⟨by simp; omega, fun i hi => ?_, fun i l hil hl => ?_, fun t ht => ?_⟩
  · rw [List.length_append, List.length_singleton] at hi
    by_cases he : i = P.length
    · rw [he, (get_new P (k, j)).1, (get_new P (k, j)).2]
      exact ⟨hkj, by omega, hr⟩
    · rw [(get_old P (k, j) i (by omega)).1, (get_old P (k, j) i (by omega)).2]
      obtain ⟨a, b, c⟩ := h1 i (by omega)
      exact ⟨a, by omega, c⟩
  · rw [List.length_append, List.length_singleton] at hl
    rw [(get_old P (k, j) i (by omega)).2]
    by_cases he : l = P.length
    · rw [he, (get_new P (k, j)).1]
      have := (h1 i (by omega)).2.1
      exact this
    · rw [(get_old P (k, j) l (by omega)).1]
      exact h2 i l hil (by omega)
  · by_cases htk : t < k
    · obtain ⟨i, hi, ha, hb⟩ := h3 t htk
      exact ⟨i, by simp; omega, by rw [(get_old P (k, j) i hi).1]; exact ha, by rw [(get_old P (k, j) i hi).2]; exact hb⟩
    · exact ⟨P.length, by simp, by rw [(get_new P (k, j)).1]; show k ≤ t; omega, by rw [(get_new P (k, j)).2]; show t ≤ j; omega⟩

/-- the numbers of the records of runs -/
def trip (L : List Int) (F : Nat → Int) (P : List (Nat × Nat)) : List Int := P.flatMap fun p => [L.getD p.1 0, L.getD p.2 0, F p.1]
theorem trip_snoc (L : List Int) (F : Nat → Int) (P : List (Nat × Nat)) (p : Nat × Nat) : trip L F (P ++ [p]) = trip L F P ++ [L.getD p.1 0, L.getD p.2 0, F p.1] := by simp [trip]
theorem trip_len (L : List Int) (F : Nat → Int) (P : List (Nat × Nat)) : (trip L F P).length = 3 * P.length := by
  induction P with
  | nil => rfl
  | cons p P ih =>
    have : trip L F (p :: P) = [L.getD p.1 0, L.getD p.2 0, F p.1] ++ trip L F P := by simp [trip]
    rw [this, List.length_append, ih, List.length_cons]
    simp
    omega
theorem trip_at (L : List Int) (F : Nat → Int) (P : List (Nat × Nat)) (i : Nat) (h : i < P.length) :
    (trip L F P).getD (3 * i) 0 = L.getD (fst P i) 0 ∧ (trip L F P).getD (3 * i + 1) 0 = L.getD (snd P i) 0 ∧ (trip L F P).getD (3 * i + 2) 0 = F (fst P i) := by
  induction P generalizing i with
  | nil => exact absurd h (by simp)
  | cons p P ih =>
    have hc : trip L F (p :: P) = L.getD p.1 0 :: L.getD p.2 0 :: F p.1 :: trip L F P := by simp [trip]
    rw [hc]
    match i with
    | 0 => exact ⟨rfl, rfl, rfl⟩
    | i + 1 =>
      obtain ⟨h1, h2, h3⟩ := ih i (by simpa using h)
      have e1 : 3 * (i + 1) = 3 * i + 1 + 1 + 1 := by omega
      have e2 : fst (p :: P) (i + 1) = fst P i := by simp [fst]
      have e3 : snd (p :: P) (i + 1) = snd P i := by simp [snd]
      rw [e1, e2, e3]
      simp only [List.getD_cons_succ]
      exact ⟨h1, by rw [show 3 * i + 1 = 3 * i + 1 from rfl]; exact h2, h3⟩
theorem words_at (l : List Int) (j : Nat) (h : j < l.length) : (words l)[2 * j]? = some (hi (l.getD j 0)) ∧ (words l)[2 * j + 1]? = some (lo (l.getD j 0)) := by
  induction l generalizing j with
  | nil => exact absurd h (by simp)
  | cons x l ih =>
    have hc : words (x :: l) = hi x :: lo x :: words l := by simp [words]
    rw [hc]
    match j with
    | 0 => exact ⟨rfl, rfl⟩
    | j + 1 =>
      obtain ⟨h1, h2⟩ := ih j (by simpa using h)
      rw [show 2 * (j + 1) = 2 * j + 1 + 1 by omega]
      exact ⟨h1, h2⟩
theorem cells_of {w : World} {b : Nat} {l : List Int} (hA : At w b 0 (vals .u8 (words l))) {j : Nat} (h : j < l.length) : w.cell? ⟨b, 2 * j, none⟩ = some (.int .u8 (hi (l.getD j 0))) ∧ w.cell? ⟨b, 2 * j + 1, none⟩ = some (.int .u8 (lo (l.getD j 0))) := by
  obtain ⟨h1, h2⟩ := words_at l j h
  have a1 := hA (2 * j) _ (by rw [vals_at, h1]; rfl)
  have a2 := hA (2 * j + 1) _ (by rw [vals_at, h2]; rfl)
  rw [Nat.zero_add] at a1 a2
  exact ⟨a1, a2⟩
end Go.Proofs.YtbpcmdgfgibbjaaDoor.RunsL
