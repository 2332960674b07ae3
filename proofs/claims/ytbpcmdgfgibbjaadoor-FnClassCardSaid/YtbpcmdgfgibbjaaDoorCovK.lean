/- The thin package's look-up in a coverage table, whichever way the table is written: each glyph's place, -1 for none. -/
import Derived.Test.YtbpcmdgfgibbjaaDoorCovI
import Derived.Test.YtbpcmdgfgibbjaaDoorRunsL
namespace Go.Proofs.YtbpcmdgfgibbjaaDoor.CovK
open Go.ChangeShapes Go.WideShapes Go.ChangeAt Go.RowKit
open Lst Mem SpecB SfntB View SearchB CovA CovB CovR VarB CovL CovZ CovI RunsL
open ListB (Asc)

theorem kept_keep {w w' : World} {nb vb lb n len : Nat} {bs : List Int} (h : Kept w nb vb lb n len bs) (hb : Below w.heap.size w w') : Kept w' nb vb lb n len bs :=
  ⟨by rw [hb.cell (World.block_lt_of_cell? w _ h.1)]; exact h.1, by rw [hb.cell (World.block_lt_of_cell? w _ h.2.1)]; exact h.2.1, h.2.2.keep hb⟩
theorem keys_of {w : World} {lb S o n : Nat} {l : List Int} {key : Nat → Int} (hA : At w lb 0 (vals .u8 (words l))) (h : ∀ j, j < n → ∃ t, S * j + o = 2 * t ∧ t < l.length ∧ l.getD t 0 = key j) : Keys w lb S o n key := fun j hj => by
  obtain ⟨t, ht, hl, he⟩ := h j hj
  obtain ⟨h1, h2⟩ := cells_of hA hl
  rw [ht, ← he]
  exact ⟨h1, h2⟩

theorem listed_ans {L : List Int} (ha : Asc L) {g : Int} {W : World} {e : Ending} {W' : World} (h : Listed L.length (fun t => L.getD t 0) g W e W') : Ans (place L g) W e W' := by
  obtain ⟨i, ⟨hi, hlo, hhi⟩, h, hb⟩ := h
  rcases h with ⟨h1, h2, rfl⟩ | ⟨h1, rfl⟩
  · exact ⟨.inl ⟨_, rfl, (place_at ha h1 h2).symm⟩, hb⟩
  · refine ⟨.inr ⟨_, rfl, place_none fun t ht he => ?_⟩, hb⟩
    by_cases hti : t < i
    · have h2 : L.getD t 0 < g := hlo t hti
      omega
    · have hil : i < L.length := by omega
      have hgi : g ≤ L.getD i 0 := hhi i (Nat.le_refl _) hil
      refine h1 ⟨hil, ?_⟩
      by_cases hte : t = i
      · rw [← hte]; exact he
      · have := ha i t (by omega) ht
        show L.getD i 0 = g
        omega
theorem ranged_ans {L : List Int} (ha : Asc L) {P : List (Nat × Nat)} {C : Int → Int} (hr : Runs L C P L.length) {g : Int} {W : World} {e : Ending} {W' : World}
    (h : Ranged P.length (fun i => L.getD (fst P i) 0) (fun i => L.getD (snd P i) 0) (fun i => (fst P i : Int)) g W e W') : Ans (place L g) W e W' := by
  obtain ⟨h0, hr1, hr2, hr3⟩ := hr
  obtain ⟨i, ⟨hi, hlo, hhi⟩, h, hb⟩ := h
  simp only at hlo hhi
  rcases h with ⟨h1, h2, rfl⟩ | ⟨h1, ⟨h2, h3⟩, rfl⟩ | ⟨h1, h2, rfl⟩
  · have h4 := hr1 i h1
    exact ⟨.inl ⟨_, rfl, (place_at ha (by omega) h2).symm⟩, hb⟩
  · have h4 := hr1 (i - 1) (by omega)
    have h5 := hlo (i - 1) (by omega)
    have h6 := (h4.2.2 (snd P (i - 1)) h4.1 (Nat.le_refl _)).1
    simp only at h3
    have h7 := (h4.2.2 (fst P (i - 1) + (g - L.getD (fst P (i - 1)) 0).toNat) (by omega) (by omega)).1
    have h8 : place L g = ((fst P (i - 1) + (g - L.getD (fst P (i - 1)) 0).toNat : Nat) : Int) := place_at ha (by omega) (by rw [h7]; omega)
    exact ⟨.inl ⟨_, rfl, by rw [h8]; show (fst P (i - 1) : Int) + g - L.getD (fst P (i - 1)) 0 = _; omega⟩, hb⟩
  · refine ⟨.inr ⟨_, rfl, place_none fun t ht he => ?_⟩, hb⟩
    obtain ⟨j, hj, ht1, ht2⟩ := hr3 t ht
    have mono : ∀ a b, a ≤ b → b < L.length → L.getD a 0 ≤ L.getD b 0 := fun a b hab hbl => by
      by_cases he : a = b
      · rw [he]; exact Int.le_refl _
      · have := ha a b (by omega) hbl
        omega
    have hbj := hr1 j hj
    have m1 := mono (fst P j) t ht1 ht
    have m2 := mono t (snd P j) ht2 (by omega)
    by_cases hji : j < i
    · by_cases hje : j = i - 1
      · refine h2 ⟨by omega, ?_⟩
        rw [← hje]
        show g ≤ L.getD (snd P j) 0
        omega
      · have h5 := hlo (i - 1) (by omega)
        have h6 := hr2 j (i - 1) (by omega) (by omega)
        have h7 := hr1 (i - 1) (by omega)
        have m3 := mono (snd P j) (fst P (i - 1)) (by omega) (by omega)
        omega
    · have h5 := hhi i (Nat.le_refl _) (by omega)
      refine h1 ⟨by omega, ?_⟩
      show L.getD (fst P i) 0 = g
      by_cases hje : j = i
      · rw [hje] at m1
        omega
      · have h6 := hr2 i j (by omega) hj
        have h7 := hr1 i (by omega)
        have m3 := mono (fst P i) (fst P j) (by omega) (by omega)
        omega

/-- a coverage table's bytes, one by one or in ranges -/
def Cov (L : List Int) (ranges : Bool) (bs : List Int) : Prop :=
  if ranges then ∃ P, Runs L (fun _ => 0) P L.length ∧ bs = words [2, (P.length : Int)] ++ words (trip L (fun a => (a : Int)) P) else bs = words [1, (L.length : Int)] ++ words L

theorem look1 (fb g c : Nat) (L gs : List Int) (w : World) (ha : Asc L) (hL : L.length ≤ 1000) (hLb : ∀ x ∈ L, 0 ≤ x ∧ x ≤ 65535) (hc : w.cell? ⟨fb, 0, none⟩ = some (.slice (some ⟨g, 0, none⟩) (4 + 2 * L.length) c)) (hcc : 4 + 2 * L.length ≤ c)
    (hA : At w g 0 (vals .u8 (words [1, (L.length : Int)] ++ words L))) (hg : g < w.heap.size) :
    Calls Tryd.prog 18 #[.pointer (some ⟨fb, 0, none⟩), .slice none 0 0, .int .i64 0] w (Look 30 (place L) gs w) := by
  refine (lookup1_any fb g c L.length (2 * L.length) (words L) w hc hA rfl (words_len L).symm hcc (by omega) hg).mono ?_
  rintro e w' ⟨nb, vb, lb, v0, rfl, hk, hb⟩
  refine ⟨_, _, _, rfl, fun W hW x hx => ?_, hb⟩
  obtain ⟨k1, k2, k3⟩ := kept_keep hk hW
  have getb : ∀ j, j < L.length → 0 ≤ L.getD j 0 ∧ L.getD j 0 ≤ 65535 := fun j hj => by
    rw [List.getD_eq_getElem?_getD, List.getElem?_eq_getElem hj]
    exact hLb _ (List.getElem_mem _)
  refine (list_any nb vb lb L.length (2 * L.length) x (fun t => L.getD t 0) W k1 k2 (keys_of k3 fun j hj => ⟨j, rfl, hj, rfl⟩) (fun a b hab hbl => ?_) (Nat.le_refl _) (by omega) getb).mono fun e w'' h => listed_ans ha h
  by_cases he : a = b
  · rw [he]; exact Int.le_refl _
  · have := ha a b (by omega) hbl
    omega

theorem look2 (fb g c : Nat) (L gs : List Int) (P : List (Nat × Nat)) (w : World) (ha : Asc L) (hL : L.length ≤ 1000) (hLb : ∀ x ∈ L, 0 ≤ x ∧ x ≤ 65535) (hr : Runs L (fun _ => 0) P L.length)
    (hc : w.cell? ⟨fb, 0, none⟩ = some (.slice (some ⟨g, 0, none⟩) (4 + 6 * P.length) c)) (hcc : 4 + 6 * P.length ≤ c)
    (hA : At w g 0 (vals .u8 (words [2, (P.length : Int)] ++ words (trip L (fun a => (a : Int)) P)))) (hg : g < w.heap.size) :
    Calls Tryd.prog 18 #[.pointer (some ⟨fb, 0, none⟩), .slice none 0 0, .int .i64 0] w (Look 32 (place L) gs w) := by
  have hr' := hr
  obtain ⟨h0, hr1, hr2, hr3⟩ := hr
  have htl : 6 * P.length = (words (trip L (fun a => (a : Int)) P)).length := by rw [words_len, trip_len]; omega
  refine (lookup2_any fb g c P.length (6 * P.length) (words (trip L (fun a => (a : Int)) P)) w hc hA rfl htl hcc (by omega) hg).mono ?_
  rintro e w' ⟨nb, vb, lb, v0, rfl, hk, hb⟩
  refine ⟨_, _, _, rfl, fun W hW x hx => ?_, hb⟩
  obtain ⟨k1, k2, k3⟩ := kept_keep hk hW
  have getb : ∀ j, j < L.length → 0 ≤ L.getD j 0 ∧ L.getD j 0 ≤ 65535 := fun j hj => by
    rw [List.getD_eq_getElem?_getD, List.getElem?_eq_getElem hj]
    exact hLb _ (List.getElem_mem _)
  have mono : ∀ a b, a ≤ b → b < L.length → L.getD a 0 ≤ L.getD b 0 := fun a b hab hbl => by
    by_cases he : a = b
    · rw [he]; exact Int.le_refl _
    · have := ha a b (by omega) hbl
      omega
  have tl := trip_len L (fun a => (a : Int)) P
  refine (range_any nb vb lb P.length (6 * P.length) x (fun i => L.getD (fst P i) 0) (fun i => L.getD (snd P i) 0) (fun i => (fst P i : Int)) W k1 k2
    (keys_of k3 fun j hj => ⟨3 * j, by omega, by omega, (trip_at L _ P j hj).1⟩) (keys_of k3 fun j hj => ⟨3 * j + 1, by omega, by omega, (trip_at L _ P j hj).2.1⟩) (keys_of k3 fun j hj => ⟨3 * j + 2, by omega, by omega, (trip_at L _ P j hj).2.2⟩)
    (fun a b hab hbl => ?_) (Nat.le_refl _) (by omega) (fun j hj => ?_) (fun j hj => ?_) (fun j hj => ?_) (fun j hj => ?_)).mono fun e w'' h => ranged_ans ha hr' h
  · have h1 := hr1 b hbl
    have h2 := hr1 a (by omega)
    by_cases he : a = b
    · rw [he]; exact Int.le_refl _
    · have h3 := hr2 a b (by omega) hbl
      exact mono _ _ (by omega) (by omega)
  · have h1 := hr1 j hj
    exact getb _ (by omega)
  · have h1 := hr1 j hj
    exact getb _ (by omega)
  · have h1 := hr1 j hj
    omega
  · have h1 := hr1 j hj
    have h2 := (h1.2.2 (snd P j) h1.1 (Nat.le_refl _)).1
    omega

theorem cov_any (g n c m cm : Nat) (A : Option Addr) (bs gs L : List Int) (ranges : Bool) (w : World) (ha : Asc L) (hL : L.length ≤ 1000) (hLb : ∀ x ∈ L, 0 ≤ x ∧ x ≤ 65535) (hcov : Cov L ranges bs)
    (hbs : n = bs.length) (hA : At w g 0 (vals .u8 bs)) (hm : m = gs.length) (hm2 : m ≤ 1000) (hs : 0 < m → ∃ b, A = some ⟨b, 0, none⟩ ∧ b < w.heap.size ∧ At w b 0 (vals .i64 gs)) (hgb : ∀ x ∈ gs, 0 ≤ x ∧ x ≤ 65535) :
    Calls Tryd.prog 9 #[.slice (some ⟨g, 0, none⟩) n c, .slice A m cm] w
      fun e w' => (∃ v, e = .returned (.tuple #[v, .bool true]) ∧ w'.ownsRow w.heap.size 3 1 v m (vals .i64 (gs.map (place L)))) ∧ Below w.heap.size w w' := by
  have hpl : ∀ x ∈ gs, -1 ≤ place L x ∧ place L x ≤ 65535 := fun x _ => by have := placeTo_bd L x L.length; unfold place; omega
  cases ranges
  · have hb : bs = words [1, (L.length : Int)] ++ words L := by simpa [Cov] using hcov
    have hbl : n = 4 + 2 * L.length := by rw [hbs, hb, List.length_append, words_len L]; simp [words]
    refine impl_any 30 g n c m cm A bs gs (place L) w hbs (by omega) hA hm hm2 hs hgb hpl (enters Tryd.func30 (by kernel_rfl) rfl) fun fb g1 c1 w1 h1 h2 h3 h4 => ?_
    rw [hbl] at h1 h2
    rw [hb] at h3
    exact look1 fb g1 c1 L gs w1 ha hL hLb h1 h2 h3 h4
  · obtain ⟨P, hr, hb⟩ : ∃ P, Runs L (fun _ => 0) P L.length ∧ bs = words [2, (P.length : Int)] ++ words (trip L (fun a => (a : Int)) P) := by simpa [Cov] using hcov
    have hbl : n = 4 + 6 * P.length := by rw [hbs, hb, List.length_append, words_len (trip _ _ _), trip_len]; simp [words]; omega
    have hPL := hr.1
    refine impl_any 32 g n c m cm A bs gs (place L) w hbs (by omega) hA hm hm2 hs hgb hpl (enters Tryd.func32 (by kernel_rfl) rfl) fun fb g1 c1 w1 h1 h2 h3 h4 => ?_
    rw [hbl] at h1 h2
    rw [hb] at h3
    exact look2 fb g1 c1 L gs P w1 ha hL hLb hr h1 h2 h3 h4
end Go.Proofs.YtbpcmdgfgibbjaaDoor.CovK
