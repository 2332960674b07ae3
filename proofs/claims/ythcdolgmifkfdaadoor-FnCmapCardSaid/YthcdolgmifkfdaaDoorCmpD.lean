/- Contract of the table of letters, of whatever format. -/
import Derived.Test.YthcdolgmifkfdaaDoorCmpA
namespace Go.Proofs.YthcdolgmifkfdaaDoor.CmpD
open Go.ChangeShapes Go.WideShapes Go.ChangeAt Go.RowKit
open Lst Mem RowG SpecB SfntB GlyM CadL FourB View AppZ CmpL CmpC CmpM CmpN CmpQ CmpR CmpS CmpT CmpU CmpV CmpW CmpX CmpY CmpZ CmpA
set_option linter.unusedSimpArgs false
set_option linter.unusedVariables false
/-- letters that are asked for -/
def Ask (fm : Int) (r : Int) : Prop := (0 ≤ r ∧ r ≤ 1114111) ∧ (fm = 0 → r < 127) ∧ (fm = 6 → r < 65536)
theorem fill_get : ∀ (ps : List Pr) (b : List Int) (r : Int), b.length = 256 → (∀ p ∈ ps, (0 ≤ p.1 ∧ p.1 < 128) ∧ 1 ≤ p.2) → ps.Pairwise (fun p q => p.1 < q.1) → 0 ≤ r → r < 128 → (fill b ps).getD r.toNat 0 = if CmpL.look ps r = 0 then b.getD r.toNat 0 else CmpL.look ps r
  | [], b, r, _, _, _, _, _ => by simp [fill, CmpL.look]
  | p :: ps, b, r, hb, hp, hs, h0, h1 => by
    have hps : ∀ q ∈ ps, (0 ≤ q.1 ∧ q.1 < 128) ∧ 1 ≤ q.2 := fun q hq => hp q (by simp [hq])
    have hp1 := hp p (by simp)
    have hs2 := List.pairwise_cons.1 hs
    rw [fill, List.foldl_cons, ← fill, fill_get ps _ r (by rw [List.length_set]; exact hb) hps hs2.2 h0 h1, CmpL.look]
    by_cases hr : p.1 = r
    · have hz : CmpL.look ps r = 0 := by
        refine CmpL.look_none ps r fun i hi => ?_
        have := hs2.1 (ps.getD i (0, 0)) (by rw [List.getD_eq_getElem?_getD, List.getElem?_eq_getElem hi]; exact List.getElem_mem _)
        omega
      rw [if_pos hz, if_pos hr, if_neg (by omega), hr, List.getD_eq_getElem?_getD, List.getElem?_set_self (by rw [hb]; omega)]
      rfl
    · rw [if_neg hr]
      by_cases hz : CmpL.look ps r = 0
      · rw [if_pos hz, if_pos hz, List.getD_eq_getElem?_getD, List.getElem?_set_ne (by omega), ← List.getD_eq_getElem?_getD]
      · rw [if_neg hz, if_neg hz]
theorem fill_bd : ∀ (ps : List Pr) (b : List Int), (∀ x ∈ b, 0 ≤ x ∧ x ≤ 255) → (∀ p ∈ ps, 0 ≤ p.2 ∧ p.2 ≤ 255) → ∀ x ∈ fill b ps, 0 ≤ x ∧ x ≤ 255
  | [], b, hb, _ => hb
  | p :: ps, b, hb, hp => by
    rw [fill, List.foldl_cons, ← fill]
    refine fill_bd ps _ (fun x hx => ?_) (fun q hq => hp q (by simp [hq]))
    rcases List.mem_or_eq_of_mem_set hx with h | h
    · exact hb x h
    · rw [h]; exact hp p (by simp)
theorem up_of {ps : List Pr} (h : ps.Pairwise (fun p q => p.1 < q.1)) : Up ps := fun i j hij hj => by
  have := List.pairwise_iff_getElem.1 h i j (by omega) hj hij
  rw [List.getD_eq_getElem?_getD, List.getD_eq_getElem?_getD, List.getElem?_eq_getElem (by omega), List.getElem?_eq_getElem hj]
  exact this
theorem mem_of {ps : List Pr} {i : Nat} (h : i < ps.length) : ps.getD i (0, 0) ∈ ps := by
  rw [List.getD_eq_getElem?_getD, List.getElem?_eq_getElem h]
  exact List.getElem_mem _
theorem glys_get (ps : List Pr) (f0 : Int) (m t : Nat) (h : t < m) : (glys ps f0 m).getD t 0 = CmpL.look ps (f0 + (t : Int)) := by
  rw [glys, List.getD_eq_getElem?_getD, List.getElem?_map, List.getElem?_range h]
  rfl
theorem table_any (cs : List Value) (A : Option Addr) (n cp : Nat) (wa fm : Int) (ps : List Pr) (w : World) (hc5 : cs[5]? = some (.slice A n cp)) (hc6 : cs[6]? = some (.int .i64 fm)) (hc27 : cs[27]? = some (.int .i64 wa)) (hcl : cs.length = 28) (hn : n = ps.length) (hat : PrAt w A ps)
    (hok : PsOk fm ps) : Calls Tryd.prog 6 #[.agg cs.toArray] w fun e w' => ∃ v T, e = .returned v ∧ Ob w w' v T ∧ Tab (Ask fm) (CmpL.look ps) fm T := by
  obtain ⟨hfm, h40, hps, hasc⟩ := hok
  have hup := up_of hasc
  rcases hfm with rfl | rfl | rfl | rfl
  · -- 4
    have hbd : Bd ps := fun i hi => by
      obtain ⟨hk, hg⟩ := hps _ (mem_of hi)
      rcases hk with ⟨h, _⟩ | ⟨h, _⟩ | ⟨h, _⟩ | ⟨_, h1, h2⟩
      · cases h
      · cases h
      · cases h
      · exact ⟨⟨h1, h2⟩, hg⟩
    refine (tb4 cs A n cp wa ps w hc5 hc6 hc27 hn (by omega) hat hup hbd).mono ?_
    rintro e w' ⟨v, hd, S, gl, rfl, hO, h7, h3, hR⟩
    have hl : (sgs (Sx S)).length = S.length + 1 := by rw [sgs_len, Sx_len]
    have hS := hR.len
    have hG := hR.gll
    refine ⟨v, _, rfl, hO, Tab.t4 hd (sgs (Sx S)) gl h7 h3 (by omega) (by omega) (fun x hx => by have := hR.glb x hx; omega) (hR.ok h40) (fun r hr => ⟨hr.1, ?_⟩)⟩
    by_cases h : r ≤ 65535
    · rw [if_pos h]
      exact hR.sem hup hbd h40 r ⟨hr.1.1, h⟩
    · rw [if_neg h]
      exact CmpL.look_none ps r fun i hi => by have := (hbd i hi).1; omega
  · -- 12
    have hk : ∀ p ∈ ps, (0 ≤ p.1 ∧ p.1 ≤ 1048304) ∧ 16 ∣ p.1 := fun p hp => by
      rcases (hps p hp).1 with ⟨h, _⟩ | ⟨h, _⟩ | ⟨_, h1, h2, h3⟩ | ⟨h, _⟩
      · cases h
      · cases h
      · exact ⟨⟨h1, h2⟩, h3⟩
      · cases h
    have hp12 : ∀ p ∈ ps, (0 ≤ p.1 ∧ p.1 ≤ 1114111) ∧ (1 ≤ p.2 ∧ p.2 ≤ 9) := fun p hp => ⟨by have := (hk p hp).1; omega, (hps p hp).2⟩
    refine (tb12 cs A n cp ps w hc5 hc6 hn (by omega) hat (fun k hk1 => ?_) hp12).mono ?_
    · have h1 := (hk _ (mem_of (ps := ps) (i := k + 1) (by omega))).2
      have h2 := (hk _ (mem_of (ps := ps) (i := k) (by omega))).2
      omega
    · rintro e w' ⟨v, rfl, hO⟩
      exact ⟨v, _, rfl, hO, Tab.t12 ps h40 hp12 hasc (fun r hr => ⟨hr.1, rfl⟩)⟩
  · -- 6
    have hk : ∀ p ∈ ps, (200 ≤ p.1 ∧ p.1 < 290) := fun p hp => by
      rcases (hps p hp).1 with ⟨h, _⟩ | ⟨_, h1, h2⟩ | ⟨h, _⟩ | ⟨h, _⟩
      · cases h
      · exact ⟨h1, h2⟩
      · cases h
      · cases h
    by_cases h0 : n = 0
    · subst h0
      obtain rfl : ps = [] := List.eq_nil_of_length_eq_zero hn.symm
      refine (tb6n cs A cp w hc5 hc6).mono ?_
      rintro e w' ⟨v, rfl, hO⟩
      refine ⟨v, _, rfl, hO, Tab.t6 0 [] (by decide) (by decide) (fun x hx => by cases hx) (fun r hr => ⟨⟨hr.1.1, by have := hr.2.2 rfl; omega⟩, ?_⟩)⟩
      rw [if_neg (by have := hr.1.1; omega)]
      simp [CmpL.look]
    · have hf := hk _ (mem_of (ps := ps) (i := 0) (by omega))
      have hl := hk _ (mem_of (ps := ps) (i := n - 1) (by omega))
      have hle : ∀ i, i < ps.length → (ps.getD 0 (0, 0)).1 ≤ (ps.getD i (0, 0)).1 ∧ (ps.getD i (0, 0)).1 ≤ (ps.getD (n - 1) (0, 0)).1 := fun i hi => by
        refine ⟨?_, ?_⟩
        · by_cases h : 0 < i
          · exact Int.le_of_lt (hup 0 i h hi)
          · obtain rfl : i = 0 := by omega
            exact Int.le_refl _
        · by_cases h : i < n - 1
          · exact Int.le_of_lt (hup i (n - 1) h (by omega))
          · obtain rfl : i = n - 1 := by omega
            exact Int.le_refl _
      have h0l := (hle (n - 1) (by omega)).1
      obtain ⟨m, hm⟩ : ∃ m : Nat, (m : Int) = (ps.getD (n - 1) (0, 0)).1 - (ps.getD 0 (0, 0)).1 + 1 := ⟨((ps.getD (n - 1) (0, 0)).1 - (ps.getD 0 (0, 0)).1 + 1).toNat, by omega⟩
      refine (tb6 cs A n cp ps w hc5 hc6 hcl hn (by omega) (by omega) hat (fun p hp => ⟨by have := hk p hp; omega, (hps p hp).2⟩) m (by omega) (by omega)).mono ?_
      rintro e w' ⟨v, rfl, hO⟩
      have hbl := CmpL.look_bd (ps := ps) (fun p hp => (hps p hp).2)
      refine ⟨v, _, rfl, hO, Tab.t6 _ (glys ps (ps.getD 0 (0, 0)).1 m) (by omega) (by rw [glys_len]; omega) (fun x hx => ?_) (fun r hr => ⟨⟨hr.1.1, by have := hr.2.2 rfl; omega⟩, ?_⟩)⟩
      · rw [glys, List.mem_map] at hx
        obtain ⟨t, _, rfl⟩ := hx
        have := hbl ((ps.getD 0 (0, 0)).1 + (t : Int))
        omega
      · by_cases h : r < (ps.getD 0 (0, 0)).1
        · rw [if_pos h]
          exact CmpL.look_none ps r fun i hi => by have := (hle i hi).1; omega
        · rw [if_neg h]
          by_cases h2 : (r - (ps.getD 0 (0, 0)).1).toNat < m
          · rw [glys_get _ _ _ _ h2, show (ps.getD 0 (0, 0)).1 + ((r - (ps.getD 0 (0, 0)).1).toNat : Int) = r by omega]
          · rw [List.getD_eq_getElem?_getD, List.getElem?_eq_none (by rw [glys_len]; omega)]
            exact CmpL.look_none ps r fun i hi => by have := (hle i hi).2; omega
  · -- 0
    have hk : ∀ p ∈ ps, (0 ≤ p.1 ∧ p.1 < 127) ∧ (1 ≤ p.2 ∧ p.2 ≤ 9) := fun p hp => by
      refine ⟨?_, (hps p hp).2⟩
      rcases (hps p hp).1 with ⟨_, h1, h2⟩ | ⟨h, _⟩ | ⟨h, _⟩ | ⟨h, _⟩
      · exact ⟨h1, h2⟩
      · cases h
      · cases h
      · cases h
    refine (tb0 cs A n cp ps w hc5 hc6 hn (by omega) hat (fun p hp => by have := hk p hp; omega)).mono ?_
    rintro e w' ⟨v, rfl, hO⟩
    refine ⟨v, _, rfl, hO, ?_⟩
    have hz : (List.replicate 256 (0 : Int)).length = 256 := List.length_replicate ..
    refine Tab.t0 (words [0, 262, 0]) (fill (List.replicate 256 0) ps) rfl (by rw [fill_len, hz]) (fill_bd ps _ (fun x hx => by rw [List.eq_of_mem_replicate hx]; decide) (fun p hp => by have := hk p hp; omega)) (fun r hr => ⟨hr.1, ?_⟩)
    have h127 := hr.2.1 rfl
    rw [if_pos (by omega), fill_get ps _ r hz (fun p hp => by have := hk p hp; omega) hasc hr.1.1 (by omega)]
    by_cases h : CmpL.look ps r = 0
    · rw [if_pos h, h, List.getD_eq_getElem?_getD, List.getElem?_replicate]
      split <;> rfl
    · rw [if_neg h]
end Go.Proofs.YthcdolgmifkfdaaDoor.CmpD
