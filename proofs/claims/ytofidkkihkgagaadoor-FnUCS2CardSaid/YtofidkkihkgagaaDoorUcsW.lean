/- The walk of FnUCS2: whatever the letters, it returns true, and what was in memory before is as it was. -/
import Derived.Test.YtofidkkihkgagaaDoorUcsB
import Derived.Laws.Cover4
namespace Go.Proofs.YtofidkkihkgagaaDoor.UcsW
open Go.ChangeShapes Go.WideShapes Go.ChangeAt Go.RowKit
open Lst SpecB SfntB UcsB

def IsRow (k : IntKind) (w : World) (a : Option Addr) (len cap : Nat) (zs : List Int) : Prop :=
  (a = none ∧ len = 0 ∧ cap = 0 ∧ zs = []) ∨
  ∃ x, a = some x ∧ len ≤ cap ∧ cap ≤ maxLen ∧ zs.length = cap ∧ (∀ i, i < zs.length → w.cell? (x.add i) = some (.int k (zs.getD i 0))) ∧ ∀ n ∈ zs, (Lit.int k n).wf = true

theorem own_open {w : World} {B n : Nat} {e : TypeId} {v : Value} {xs : List Value} (ho : w.ownsRow B e 1 v n xs) (hn : v ≠ .slice none 0 0) :
    ∃ g cap, v = .slice (some ⟨g, 0, none⟩) n cap ∧ At w g 0 xs ∧ n ≤ cap ∧ g < w.heap.size ∧ B ≤ g := by
  have ho' := ho
  rcases ho.2 with ⟨hv, _⟩ | ⟨g, cap, cur, rfl, hg, hh, hc, _⟩
  · exact absurd hv hn
  · have hlt : g < w.heap.size := by
      by_cases hlt : g < w.heap.size
      · exact hlt
      · rw [Array.getElem?_eq_none (by omega)] at hh
        cases hh
    exact ⟨g, cap, rfl, At.of_own ho', hc, hlt, hg⟩

theorem runes_snoc (l : List Int) (x : Int) : runesBytes (l ++ [x]) = runesBytes l ++ Utf8.encode x := by simp [runesBytes]

set_option maxHeartbeats 3200000 in
set_option maxRecDepth 3000 in
theorem walk (a0 : Option Addr) (n cap0 : Nat) (ls : List Int) (odd : Bool) (E : Value) (u : TypeId) (w : World) (hn : n = ls.length) (hsz : n ≤ 100) (hl : ∀ x ∈ ls, 0 ≤ x ∧ x ≤ 65535)
    (hsrc : 0 < n → ∃ b off, a0 = some ⟨b, off, none⟩ ∧ b < w.heap.size ∧ At w b off (vals .u16 ls)) (hE : w.cell? ⟨0, 0, none⟩ = some (.iface u E)) :
    Calls Tryd.prog 3 #[.slice a0 n cap0, .bool odd] w fun e w' => e = .returned (.bool true) ∧ Below w.heap.size w w' := by
  obtain ⟨i0, hi0, hz0, hz1, hz2⟩ := info_parts u8info
  have HN := Lib.hid hn
  have HL := Lib.hid hl
  have HS := Lib.hid hsrc
  have HE := Lib.hid hE
  clear hn hl hsrc hE
  have e1 : ¬ ((2147483647 : Int) < n) := by omega
  have e2 : ¬ ((100 : Int) < n) := by omega
  go_enter Tryd.func3, Tryd.ntmps3
  go_wp2
  go_loopw [5, 6, 24] (fun out want i wr => ∃ k : Nat, k ≤ n ∧ i = .int .i64 k ∧ want = .string (runesBytes (ls.take k)) ∧ wr.ownsRow w.heap.size 5 1 out (2 * k) (vals .u8 (words (ls.take k))) ∧ out ≠ .slice none 0 0 ∧ Below w.heap.size w wr) (fun _ _ i _ => n - (intOf i).toNat)
  case atStart => exact ⟨0, Nat.zero_le _, rfl, rfl, made_row w _, by simp, bel_made w _ _⟩
  case round =>
    obtain ⟨k, hk, rfl, rfl, hown, hnn, hbel⟩ := hrel
    by_cases hlt : k < n
    · obtain ⟨b0, off0, rfl, hb0, hA0⟩ := HS.out (by omega)
      obtain ⟨x, hx⟩ : ∃ x, x = ls.getD k 0 := ⟨_, rfl⟩
      have hlk : k < ls.length := by rw [← HN.out]; exact hlt
      have hxb : 0 ≤ x ∧ x ≤ 65535 := by
        rw [hx, List.getD_eq_getElem?_getD, List.getElem?_eq_getElem hlk]
        exact HL.out _ (List.getElem_mem _)
      have hcell : wr.cell? ⟨b0, off0 + k, none⟩ = some (.int .u16 x) := by
        rw [hx]
        exact (hbel.cell (p := ⟨b0, off0 + k, none⟩) hb0).trans (hA0.get hlk)
      have w1 : IntKind.i64.wrap x = x := IntWalk.i64_in _ (by omega)
      have w2 : IntKind.i32.wrap x = x := IntWalk.i32_in _ (by omega)
      have hsum : (runesBytes (ls.take k)).size + (Utf8.encode x).size ≤ 9223372036854775807 := by
        have := runesBytes_size_le (ls.take k)
        have := encode_size_le x
        rw [List.length_take] at *
        omega
      have hadd := fun w => run_string_add_sum (P := Tryd.prog) w _ _ hsum
      have htk := take_snoc ls k hlk
      rw [← hx] at htk
      have HT := Lib.hid htk
      have HSZ := Lib.hid hsum
      have HO := Lib.hid hown
      have HB := Lib.hid hbel
      have HNN := Lib.hid hnn
      clear hown hbel hnn hx htk hA0 hsum
      have hAt : At (wr.alloc (.cells #[.int .i64 x] 3)) wr.heap.size 0 (vals .i64 [x]) := by
        intro j v hj
        match j, hj with
        | 0, hj => simp [vals] at hj; subst hj; simp
      have hW := words_any wr.heap.size 0 1 [x] (wr.alloc (.cells #[.int .i64 x] 3)) (by simp) hAt (by simp; omega) (by simp)
      have HW := Lib.hid hW
      clear hAt hW
      have hlen : (words [x]).length = 2 := rfl
      have h3 : (55296 ≤ x ∧ x < 57344) ∨ (x < 55296 ∨ (55296 ≤ x ∧ ¬ x < 57344)) := by omega
      rcases h3 with ⟨h1, h2⟩ | h3
      · go_wp2
        go_ret
        exact ⟨rfl, HB.out⟩
      rcases h3 with h1 | ⟨h1, h2⟩ <;> (
        go_wp2_with fail
        refine HW.out.mono ?_
        intro e w3 hm
        obtain ⟨g, cap, rfl, hA1, hcap, hg1, hg2, hb1⟩ := made_open hm
        rw [hlen] at hcap ⊢
        have HA1 := Lib.hid hA1
        have HB1 := Lib.hid hb1
        have HO3 := Lib.hid (own_keep (HO.out.alloc _) hb1)
        clear hA1 hb1 hm
        go_wp2_with (at_builtin; refine wpList_append_own _ rfl _ _ 23 rfl w.heap.size 5 i0 (.int .u8 0) 1 1 Tryd.underlying23 hi0 hz0 hz1 hz2 rfl (by decide) _ _ _ rfl HO3.out ⟨g, 0, none⟩ 2 cap (vals .u8 (words [x])) rfl rfl ?c1 ?c2 ?c3 ?c4 ?c5 ?_)
        case c1 =>
          intro j v hj
          rw [Addr.add_lit]
          exact HA1.out j v hj
        case c2 => exact vals_one _ _
        case c3 => unfold maxLen; omega
        case c4 => omega
        case c5 => have := HB.out.size; have := HB1.out.size; simp at this; omega
        intro v' w4 hown' hgrow hnil
        have hb3 : Below w.heap.size w w3 := (HB.out.alloc HB.out.size _).trans (HB1.out.mono (by have := HB.out.size; simp; omega))
        have hb4 := hb3.grown hgrow hb3.size (fun g hg => own_ge HO.out hg)
        have ho4 : w4.ownsRow w.heap.size 5 1 v' (2 * (k + 1)) (vals .u8 (words (ls.take (k + 1)))) := by
          rw [HT.out, words_snoc, vals_app]
          exact hown'
        have hr4 : runesBytes (ls.take k) ++ Utf8.encode x = runesBytes (ls.take (k + 1)) := by rw [HT.out, runes_snoc]
        have HB4 := Lib.hid hb4
        have HO4 := Lib.hid ho4
        have HN4 := Lib.hid hnil
        have HR4 := Lib.hid hr4
        clear hb3 hb4 ho4 hown' hgrow hnil hr4
        go_wp2
        exact ⟨⟨k + 1, by omega, by go_num, by rw [HR4.out], HO4.out, HN4.out, HB4.out⟩, by simp [intOf]; omega⟩)
    · have hkn : k = n := by omega
      subst hkn
      have ht : ls.take k = ls := List.take_of_length_le (by rw [← HN.out]; exact Nat.le_refl _)
      rw [ht] at hown
      simp only [ht]
      obtain ⟨g, cap, rfl, hA1, hcap, hg1, hg2⟩ := own_open hown hnn
      have hEr : wr.cell? ⟨0, 0, none⟩ = some (.iface u E) := by
        rw [hbel.cell (World.block_lt_of_cell? w _ HE.out)]; exact HE.out
      have hI := impl_even g cap k ls wr HN.out hA1 HL.out (by omega)
      have HI := Lib.hid hI
      have HA1 := Lib.hid hA1
      have HO := Lib.hid hown
      have HB := Lib.hid hbel
      have HEr := Lib.hid hEr
      clear hown hbel hnn hA1 hI hEr ht
      cases odd
      · go_wp2_with (go_at_call 8; refine HI.out.mono ?_; rintro e w2 ⟨rfl, hb2⟩)
        go_ret
        exact ⟨rfl, HB.out.trans (hb2.mono HB.out.size)⟩
      · go_wp2_with fail
        refine HI.out.mono ?_
        rintro e w2 ⟨rfl, hb2⟩
        have HO2 := Lib.hid (own_keep HO.out hb2)
        have HB2 := Lib.hid (HB.out.trans (hb2.mono HB.out.size))
        clear hb2
        go_wp2_with (at_builtin; refine wpList_append_own _ rfl _ _ 23 rfl w.heap.size 5 i0 (.int .u8 0) 1 1 Tryd.underlying23 hi0 hz0 hz1 hz2 rfl (by decide) _ _ _ rfl (HO2.out.alloc _) ⟨w2.heap.size, 0, none⟩ 1 1 (vals .u8 [65]) rfl rfl ?c1 ?c2 ?c3 ?c4 ?c5 ?_)
        case c1 =>
          intro j v hj
          match j, hj with
          | 0, hj => simp [vals] at hj; subst hj; simp [Addr.add]
        case c2 => exact vals_one _ _
        case c3 => unfold maxLen; omega
        case c4 => omega
        case c5 => have := HB2.out.size; simp; omega
        intro v' w4 hown' hgrow hnil
        have hb4 := (HB2.out.alloc HB2.out.size _).grown hgrow (by have := HB2.out.size; simp; omega) (fun g hg => own_ge HO2.out hg)
        rw [← vals_app] at hown'
        have hlen : (words ls ++ [65]).length = 2 * k + 1 := by rw [List.length_append, words_len, ← HN.out]; rfl
        obtain ⟨g4, cap4, rfl, hA4, hcap4, hg41, hg42⟩ := own_open hown' (by first | exact hnil | exact fun h => by simp [h] at hnil)
        have hE4 : w4.cell? ⟨0, 0, none⟩ = some (.iface u E) := by
          rw [hb4.cell (World.block_lt_of_cell? w _ HE.out)]; exact HE.out
        have hI4 := impl_odd g4 cap4 (words ls ++ [65]) E u w4 hE4 hA4 (by omega) (by omega)
        rw [hlen] at hI4
        have HI4 := Lib.hid hI4
        have HB4 := Lib.hid hb4
        clear hI4 hb4 hE4 hA4 hown' hgrow hnil
        go_wp2_with (go_at_call 8; refine HI4.out.mono ?_; rintro e w5 ⟨rfl, hb5⟩)
        go_ret
        exact ⟨rfl, HB4.out.trans (hb5.mono HB4.out.size)⟩
end Go.Proofs.YtofidkkihkgagaaDoor.UcsW
