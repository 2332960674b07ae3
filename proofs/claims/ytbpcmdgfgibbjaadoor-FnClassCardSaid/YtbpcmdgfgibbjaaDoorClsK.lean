/- The thin package's look-up in a class table, whichever way the table is written: each glyph's class, 0 for none. -/
import Derived.Test.YtbpcmdgfgibbjaaDoorClsZ
import Derived.Test.YtbpcmdgfgibbjaaDoorCovK
namespace Go.Proofs.YtbpcmdgfgibbjaaDoor.ClsK
open Go.ChangeShapes Go.WideShapes Go.ChangeAt Go.RowKit
open Lst Mem SpecB SfntB View SearchB CovA CovB CovK VarB ClsR ClsB ClsL ClsZ RunsL
open ListB (Asc)

/-- a glyph's class -/
def cls (L : List Int) (x : Int) : Int := if x ∈ L then 1 + x % 3 else 0
theorem cls_bd (L : List Int) (x : Int) : 0 ≤ cls L x ∧ cls L x ≤ 3 := by unfold cls; split <;> omega
theorem mem_at {L : List Int} {x : Int} (h : x ∈ L) : ∃ t, t < L.length ∧ L.getD t 0 = x := by
  obtain ⟨t, ht, he⟩ := List.mem_iff_getElem.1 h
  exact ⟨t, ht, by rw [List.getD_eq_getElem?_getD, List.getElem?_eq_getElem ht]; exact he⟩
theorem asc_mono {L : List Int} (ha : Asc L) {a b : Nat} (hab : a ≤ b) (hb : b < L.length) : L.getD a 0 ≤ L.getD b 0 := by
  by_cases he : a = b
  · rw [he]; exact Int.le_refl _
  · have := ha a b (by omega) hb
    omega

theorem classed_ans {L : List Int} (ha : Asc L) {P : List (Nat × Nat)} (hr : Runs L (cls L) P L.length) {g : Int} {W : World} {e : Ending} {W' : World}
    (h : Classed P.length (fun i => L.getD (fst P i) 0) (fun i => L.getD (snd P i) 0) (fun i => cls L (L.getD (fst P i) 0)) g W e W') : Cls (cls L g) W e W' := by
  obtain ⟨h0, hr1, hr2, hr3⟩ := hr
  obtain ⟨i, ⟨hi, hlo, hhi⟩, h, hb⟩ := h
  simp only at hlo hhi
  rcases h with ⟨h1, h2, rfl⟩ | ⟨h1, ⟨h2, h3⟩, rfl⟩ | ⟨h1, h2, rfl⟩
  · have h2' : L.getD (fst P i) 0 = g := h2
    exact ⟨by simp only [h2'], hb⟩
  · have h4 := hr1 (i - 1) (by omega)
    have h5 := hlo (i - 1) (by omega)
    have h6 := (h4.2.2 (snd P (i - 1)) h4.1 (Nat.le_refl _)).1
    simp only at h3
    have h7 := h4.2.2 (fst P (i - 1) + (g - L.getD (fst P (i - 1)) 0).toNat) (by omega) (by omega)
    have h8 : L.getD (fst P (i - 1) + (g - L.getD (fst P (i - 1)) 0).toNat) 0 = g := by rw [h7.1]; omega
    rw [h8] at h7
    exact ⟨by simp only [h7.2], hb⟩
  · refine ⟨?_, hb⟩
    have hn : g ∉ L := fun hg => by
      obtain ⟨t, ht, he⟩ := mem_at hg
      obtain ⟨j, hj, ht1, ht2⟩ := hr3 t ht
      have hbj := hr1 j hj
      have m1 := asc_mono ha (a := fst P j) (b := t) ht1 ht
      have m2 := asc_mono ha (a := t) (b := snd P j) ht2 (by omega)
      by_cases hji : j < i
      · by_cases hje : j = i - 1
        · refine h2 ⟨by omega, ?_⟩
          rw [← hje]
          show g ≤ L.getD (snd P j) 0
          omega
        · have h5 := hlo (i - 1) (by omega)
          have h6 := hr2 j (i - 1) (by omega) (by omega)
          have h7 := hr1 (i - 1) (by omega)
          have m3 := asc_mono ha (a := snd P j) (b := fst P (i - 1)) (by omega) (by omega)
          omega
      · have h5 := hhi i (Nat.le_refl _) (by omega)
        refine h1 ⟨by omega, ?_⟩
        show L.getD (fst P i) 0 = g
        by_cases hje : j = i
        · rw [hje] at m1
          omega
        · have h6 := hr2 i j (by omega) hj
          have h7 := hr1 i (by omega)
          have m3 := asc_mono ha (a := fst P i) (b := fst P j) (by omega) (by omega)
          omega
    simp only [cls, if_neg hn]

/-- how many numbers lie from the first glyph to the last -/
def span (L : List Int) : Nat := (L.getD (L.length - 1) 0 - L.getD 0 0 + 1).toNat
def line (L : List Int) : List Int := (List.range (span L)).map fun (j : Nat) => cls L (L.getD 0 0 + (j : Int))
theorem line_len (L : List Int) : (line L).length = span L := by simp [line]
theorem line_at (L : List Int) (j : Nat) (hj : j < span L) : (line L).getD j 0 = cls L (L.getD 0 0 + (j : Int)) := by
  simp [line, List.getD_eq_getElem?_getD, hj]
theorem rowed_ans {L : List Int} (ha : Asc L) (hn : 0 < L.length) {g : Int} {W : World} {e : Ending} {W' : World} (h : Rowed (span L) (L.getD 0 0) (fun j => (line L).getD j 0) g W e W') : Cls (cls L g) W e W' := by
  obtain ⟨h, hb⟩ := h
  rcases h with ⟨j, hj, rfl, rfl⟩ | ⟨h1, rfl⟩
  · exact ⟨by simp only [line_at L j hj], hb⟩
  · refine ⟨?_, hb⟩
    have hnm : g ∉ L := fun hg => by
      obtain ⟨t, ht, he⟩ := mem_at hg
      have m1 := asc_mono ha (a := 0) (b := t) (by omega) ht
      have m2 := asc_mono ha (a := t) (b := L.length - 1) (by omega) (by omega)
      unfold span at h1
      omega
    simp only [cls, if_neg hnm]

/-- a class table's bytes, from the first glyph on or of ranges -/
def Clb (L : List Int) (ranges : Bool) (bs : List Int) : Prop :=
  if ranges then ∃ P, Runs L (cls L) P L.length ∧ bs = words [2, (P.length : Int)] ++ words (trip L (fun a => cls L (L.getD a 0)) P) else bs = words [1, L.getD 0 0, (span L : Int)] ++ words (line L)

theorem class_any (g n c m cm : Nat) (A : Option Addr) (bs gs L : List Int) (ranges : Bool) (w : World) (ha : Asc L) (h0 : 0 < L.length) (hL : L.length ≤ 1000) (hLb : ∀ x ∈ L, 0 ≤ x ∧ x ≤ 65535)
    (hsp : ranges = false → span L ≤ 2000 ∧ L.getD (L.length - 1) 0 ≤ 65534) (hcl : Clb L ranges bs)
    (hbs : n = bs.length) (hA : At w g 0 (vals .u8 bs)) (hm : m = gs.length) (hm2 : m ≤ 1000) (hs : 0 < m → ∃ b, A = some ⟨b, 0, none⟩ ∧ b < w.heap.size ∧ At w b 0 (vals .i64 gs)) (hgb : ∀ x ∈ gs, 0 ≤ x ∧ x ≤ 65535) :
    Calls Tryd.prog 7 #[.slice (some ⟨g, 0, none⟩) n c, .slice A m cm] w
      fun e w' => (∃ v, e = .returned (.tuple #[v, .bool true]) ∧ w'.ownsRow w.heap.size 3 1 v m (vals .i64 (gs.map (cls L)))) ∧ Below w.heap.size w w' := by
  have hpl : ∀ x ∈ gs, -1 ≤ cls L x ∧ cls L x ≤ 65535 := fun x _ => by have := cls_bd L x; omega
  have getb : ∀ j, j < L.length → 0 ≤ L.getD j 0 ∧ L.getD j 0 ≤ 65535 := fun j hj => by
    rw [List.getD_eq_getElem?_getD, List.getElem?_eq_getElem hj]
    exact hLb _ (List.getElem_mem _)
  cases ranges
  · obtain ⟨hsp1, hsp2⟩ := hsp rfl
    have hb : bs = words [1, L.getD 0 0, (span L : Int)] ++ words (line L) := by simpa [Clb] using hcl
    have hbl : n = 6 + 2 * span L := by rw [hbs, hb, List.length_append, words_len (line L), line_len]; simp [words]
    have hspan0 : 0 < span L := by
      have := asc_mono ha (a := 0) (b := L.length - 1) (by omega) (by omega)
      unfold span
      omega
    have hspe : (span L : Int) = L.getD (L.length - 1) 0 - L.getD 0 0 + 1 := by
      have := asc_mono ha (a := 0) (b := L.length - 1) (by omega) (by omega)
      unfold span
      omega
    have hf := getb 0 h0
    refine impl3_any 26 g n c m cm A bs gs (cls L) w hbs (by omega) hA hm hm2 hs hgb hpl (enters Tryd.func26 (by kernel_rfl) rfl) fun fb g1 c1 w1 h1 h2 h3 h4 => ?_
    rw [hbl] at h1 h2
    rw [hb] at h3
    refine (look1_any fb g1 c1 (span L) (2 * span L) (L.getD 0 0) (words (line L)) w1 h1 h3 rfl (by rw [words_len, line_len]) h2 (by omega) hf (by omega) h4).mono ?_
    rintro e w' ⟨sb, nb, vb, lb, v0, rfl, hk, hb⟩
    refine ⟨_, _, _, _, rfl, fun W hW x hx => ?_, hb⟩
    obtain ⟨k1, k2, k3, k4⟩ := hk
    have key : ∀ (q : Addr) (v : Value), w'.cell? q = some v → W.cell? q = some v := fun q v hq => by rw [hW.cell (World.block_lt_of_cell? w' _ hq)]; exact hq
    have hx2 := hgb x hx
    exact (rowed_any sb nb vb lb (span L) (2 * span L + 2) x (L.getD 0 0) (fun j => (line L).getD j 0) W (key _ _ k1) (key _ _ k2) (key _ _ k3) (keys_of (k4.keep hW) fun j hj => ⟨j, rfl, by rw [line_len]; exact hj, rfl⟩) (by omega) (by omega)
      (fun j hj => by rw [line_at L j hj]; have := cls_bd L (L.getD 0 0 + (j : Int)); omega) hx2 hf.1 (by omega)).mono fun e w'' h => rowed_ans ha h0 h
  · obtain ⟨P, hr, hb⟩ : ∃ P, Runs L (cls L) P L.length ∧ bs = words [2, (P.length : Int)] ++ words (trip L (fun a => cls L (L.getD a 0)) P) := by simpa [Clb] using hcl
    have hr' := hr
    obtain ⟨hPL, hr1, hr2, hr3⟩ := hr
    have hP0 : 0 < P.length := by
      obtain ⟨i, hi, _⟩ := hr3 0 h0
      omega
    have htl : 6 * P.length = (words (trip L (fun a => cls L (L.getD a 0)) P)).length := by rw [words_len, trip_len]; omega
    have tl := trip_len L (fun a => cls L (L.getD a 0)) P
    have hbl : n = 4 + 6 * P.length := by rw [hbs, hb, List.length_append, words_len (trip _ _ _), trip_len]; simp [words]; omega
    refine impl2_any 27 g n c m cm A bs gs (cls L) w hbs (by omega) hA hm hm2 hs hgb hpl (enters Tryd.func27 (by kernel_rfl) rfl) fun fb g1 c1 w1 h1 h2 h3 h4 => ?_
    rw [hbl] at h1 h2
    rw [hb] at h3
    refine (look2_any fb g1 c1 P.length (6 * P.length) _ w1 h1 h3 rfl htl h2 (by omega) (by omega) h4).mono ?_
    rintro e w' ⟨nb, vb, lb, v0, rfl, hk, hb⟩
    refine ⟨_, _, _, rfl, fun W hW x hx => ?_, hb⟩
    obtain ⟨k1, k2, k3⟩ := kept_keep hk hW
    refine (classes_any nb vb lb P.length (6 * P.length + 2) x (fun i => L.getD (fst P i) 0) (fun i => L.getD (snd P i) 0) (fun i => cls L (L.getD (fst P i) 0)) W k1 k2
      (keys_of k3 fun j hj => ⟨3 * j, by omega, by omega, (trip_at L _ P j hj).1⟩) (keys_of k3 fun j hj => ⟨3 * j + 1, by omega, by omega, (trip_at L _ P j hj).2.1⟩) (keys_of k3 fun j hj => ⟨3 * j + 2, by omega, by omega, (trip_at L _ P j hj).2.2⟩)
      (fun a b hab hbl => ?_) (by omega) (by omega) (fun j hj => ?_) (fun j hj => ?_) (fun j hj => ?_)).mono fun e w'' h => classed_ans ha hr' h
    · have h1 := hr1 b hbl
      have h2 := hr1 a (by omega)
      by_cases he : a = b
      · rw [he]; exact Int.le_refl _
      · have h3 := hr2 a b (by omega) hbl
        exact asc_mono ha (by omega) (by omega)
    · have h1 := hr1 j hj
      exact getb _ (by omega)
    · have h1 := hr1 j hj
      exact getb _ (by omega)
    · have := cls_bd L (L.getD (fst P j) 0)
      show 0 ≤ cls L _ ∧ cls L _ ≤ 65535
      omega
end Go.Proofs.YtbpcmdgfgibbjaaDoor.ClsK
