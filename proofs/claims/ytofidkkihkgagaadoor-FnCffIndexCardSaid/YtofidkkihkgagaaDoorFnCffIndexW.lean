/- The walk of FnCffIndex: whatever the arguments, it returns true, and what was in memory before is as it was. -/
import Derived.Test.YtofidkkihkgagaaDoorCffD
import Derived.Test.YtofidkkihkgagaaDoorFnLocaW
namespace Go.Proofs.YtofidkkihkgagaaDoor.FnCffIndexW
open Go.ChangeShapes Go.WideShapes Go.ChangeAt Go.RowKit
open Lst Mem SpecB SfntB View FourB AppZ CffA CffB CffC CffD FnLocaW

/-- where the elements begin, and where the last one ends, from 1 on -/
def pls (l : List Int) : List Int := (List.range (l.length + 1)).map fun j => 1 + (l.take j).sum + (j : Int)
theorem pls_len (l : List Int) : (pls l).length = l.length + 1 := by simp [pls]
theorem pls_nil : pls [] = [1] := rfl
theorem pls_snoc (l : List Int) (x : Int) : pls (l ++ [x]) = pls l ++ [1 + l.sum + (l.length : Int) + (x + 1)] := by
  unfold pls
  rw [List.length_append, List.length_singleton, List.range_succ (n := l.length + 1), List.map_append]
  congr 1
  · apply List.map_congr_left
    intro j hj
    rw [List.take_append_of_le_length (by have := List.mem_range.1 hj; omega)]
  · have : (l ++ [x]).take (l.length + 1) = l ++ [x] := List.take_of_length_le (by simp)
    simp only [List.map_cons, List.map_nil, this, List.sum_append, List.sum_cons, List.sum_nil]
    congr 1
    omega
theorem pls_at (l : List Int) (k : Nat) (hk : k ≤ l.length) : (pls l).getD k 0 = 1 + (l.take k).sum + (k : Int) := by
  rw [List.getD_eq_getElem?_getD, pls, List.getElem?_map, List.getElem?_range (by omega)]
  rfl
theorem sum_take (l : List Int) (k : Nat) (hk : k < l.length) : (l.take (k + 1)).sum = (l.take k).sum + l.getD k 0 := by
  rw [take_snoc l k hk, List.sum_append, List.sum_cons, List.sum_nil, Int.add_zero]
theorem sum_mono (l : List Int) (h : ∀ x ∈ l, 0 ≤ x ∧ x ≤ 255) (k : Nat) : (l.take k).sum ≤ l.sum := by
  have h1 : l.sum = (l.take k).sum + (l.drop k).sum := by rw [← List.sum_append, List.take_append_drop]
  have h2 := sum_bd (l.drop k) (fun x hx => h x (List.mem_of_mem_drop hx))
  omega
theorem idx_of (ls : List Int) (n W N : Nat) (hn : n = ls.length) (h0 : 0 < n) (h50 : n ≤ 50) (hl : ∀ x ∈ ls, 0 ≤ x ∧ x ≤ 255) (hW : W = 2 ∨ W = 3 ∨ W = 4) (Z : Nat) (hZ : (Z : Int) = ls.sum + n) (hN : N = 3 + W * (n + 1) + Z) :
    Idx n W (pls ls) (words [(n : Int)] ++ [(W : Int)] ++ wid W (pls ls) ++ List.replicate Z 0) N := by
  have hs := sum_bd ls hl
  have hp : (pls ls).length = n + 1 := by rw [pls_len, hn]
  have hWn : W * (n + 1) ≤ 4 * (n + 1) := Nat.mul_le_mul_right _ (by omega)
  refine ⟨hp.symm, h0, by omega, hW, ⟨_, rfl⟩, ?_, by omega, ?_, ?_, ?_⟩
  · rw [List.length_append, List.length_append, List.length_append, wid_len W (by omega), hp, List.length_replicate, show (words [(n : Int)]).length = 2 from rfl, hN]
    simp
  · rw [pls_at _ _ (by omega)]; simp
  · intro k hk0 hk
    rw [hp] at hk
    rw [pls_at _ _ (by omega), pls_at _ _ (by omega)]
    have := sum_take ls (k - 1) (by omega)
    rw [show k - 1 + 1 = k by omega] at this
    have hx : 0 ≤ ls.getD (k - 1) 0 := by
      rw [List.getD_eq_getElem?_getD, List.getElem?_eq_getElem (by omega)]
      exact (hl _ (List.getElem_mem _)).1
    omega
  · intro k hk
    rw [hp] at hk ⊢
    rw [pls_at _ _ (by omega)]
    have h1 := sum_bd (ls.take k) (fun x hx => hl x (List.mem_of_mem_take hx))
    have h2 := sum_mono ls hl k
    have h3 : (ls.take k).length ≤ n := by rw [List.length_take]; omega
    omega

set_option maxHeartbeats 6400000 in
set_option maxRecDepth 3000 in
theorem walk (a0 : Option Addr) (n cap0 : Nat) (ls : List Int) (wd : Int) (w : World) (hn : n = ls.length) (h0n : 0 < n) (hsz : n ≤ 50) (hl : ∀ x ∈ ls, 0 ≤ x ∧ x ≤ 255) (hwd : 0 ≤ wd ∧ wd ≤ 255)
    (hsrc : ∃ b off, a0 = some ⟨b, off, none⟩ ∧ b < w.heap.size ∧ At w b off (vals .u8 ls)) :
    Calls Tryd.prog 6 #[.slice a0 n cap0, .int .u8 wd] w fun e w' => e = .returned (.bool true) ∧ Below w.heap.size w w' := by
  obtain ⟨i0, hi0, hz0, hz1, hz2⟩ := info_parts u8info
  obtain ⟨j0, hj0, jz0, jz1, jz2⟩ := info_parts intinfo
  obtain ⟨b0, off0, rfl, hb0, hA0⟩ := hsrc
  obtain ⟨hw0, hw1⟩ := hwd
  obtain ⟨r, hr⟩ : ∃ r : Nat, wd % 3 = (r : Int) := ⟨(wd % 3).toNat, by omega⟩
  obtain ⟨W, hW⟩ : ∃ W : Nat, (2 : Int) + (r : Int) = (W : Int) := ⟨2 + r, by omega⟩
  have hW3 : W = 2 ∨ W = 3 ∨ W = 4 := by omega
  have hWb : 2 ≤ W ∧ W ≤ 4 := by omega
  obtain ⟨hWl, hWh⟩ := hWb
  obtain ⟨R, hR⟩ : ∃ R : Nat, (W : Int) * ((n : Int) + 1) = (R : Int) := ⟨W * (n + 1), by rw [Int.natCast_mul]; rfl⟩
  have hRb : R ≤ 204 := by
    have : W * (n + 1) ≤ 4 * (n + 1) := Nat.mul_le_mul_right _ hWh
    have h2 : ((W * (n + 1) : Nat) : Int) = (R : Int) := by rw [← hR, Int.natCast_mul]; rfl
    omega
  obtain ⟨V, hV⟩ : ∃ V : Nat, (4 : Int) - (W : Int) = (V : Int) := ⟨4 - W, by omega⟩
  have hVW : 4 - V = W := by omega
  have hV2 : V ≤ 2 := by omega
  have HN := Lib.hid hn
  have HL := Lib.hid hl
  have HA := Lib.hid hA0
  have HW3 := Lib.hid hW3
  have HVW := Lib.hid hVW
  have HRR := Lib.hid hR
  clear hn hl hA0 hW3 hVW
  have e1 : ¬ ((2147483647 : Int) < n) := by omega
  have e2 : ¬ ((50 : Int) < n) := by omega
  have e3 : ((n : Int) == 0) = false := by simp; omega
  have v1 : IntKind.u8.wrap (W : Int) = W := IntWalk.u8_in _ (by omega)
  have v2 : IntKind.i64.wrap (R : Int) = R := IntWalk.i64_in _ (by omega)
  have v3 : IntKind.i64.wrap (W : Int) = W := IntWalk.i64_in _ (by omega)
  go_enter Tryd.func6, Tryd.ntmps6
  go_wp2_with fail
  refine (words_any w.heap.size 0 1 [(n : Int)] _ (by simp) (one_at w n) (by simp; omega) (by simp)).mono ?_
  rintro e w1 ⟨p1, rfl, ho1, hn1, hb1⟩
  have HO1 := Lib.hid (show w1.ownsRow w.heap.size 5 1 p1 2 (vals .u8 (words [(n : Int)])) from ⟨ho1.1, ho1.2.imp id (fun ⟨g, cap, cur, h, hb, rest⟩ => ⟨g, cap, cur, h, by simp at hb; omega, rest⟩)⟩)
  have HB1 := Lib.hid ((bel_made w _ _).trans (hb1.mono (by simp)))
  have HN1 := Lib.hid hn1
  clear ho1 hb1 hn1
  go_wp2_with (at_builtin; refine app_any rfl _ _ 23 rfl w.heap.size 5 i0 (.int .u8 0) 1 Tryd.underlying23 hi0 hz0 hz1 hz2 rfl _ _ _ rfl (HO1.out.alloc _) (some ⟨w1.heap.size, 0, none⟩) 1 1 (vals .u8 [(W : Int)]) rfl ?c1 (vals_one _ _) ?c3 ?c4 ?c5 ?_)
  case c1 =>
    refine ⟨rfl, fun ad e j u hj => ?_, fun h => by cases h⟩
    cases e
    match j, hj with
    | 0, hj => simp [vals] at hj; subst hj; simp [Addr.add]
  case c3 => decide
  case c4 => decide
  case c5 => have := HB1.out.size; simp; omega
  intro p2 w2 hown2 hgrow2 hnil2
  have ho2 : w2.ownsRow w.heap.size 5 1 p2 3 (vals .u8 (words [(n : Int)] ++ [(W : Int)])) := by rw [vals_app]; exact hown2
  have hb2 : Below w.heap.size w w2 := (HB1.out.alloc HB1.out.size _).grown hgrow2 (by have := HB1.out.size; simp; omega) (fun g hg => own_ge HO1.out hg)
  have hn2 : p2 ≠ .slice none 0 0 := fun h => by first | exact hnil2 h | exact HN1.out (hnil2.1 h).1
  have HO2 := Lib.hid (ho2.alloc (.cells #[.int .i64 (3 + (R : Int))] 3))
  have HOW := Lib.hid (World.ownsRow_lit (base := w.heap.size) (e := 3) (size := 1) w2 #[.int .i64 (3 + (R : Int))] 1 hb2.size (by decide) rfl)
  have HB2 := Lib.hid (hb2.alloc hb2.size (.cells #[.int .i64 (3 + (R : Int))] 3))
  have HN2 := Lib.hid hn2
  clear ho2 hb2 hn2 hown2 hgrow2 hnil2
  go_wp2_with fail
  refine (Four_any 1 _).mono ?_
  intro e w3 hm
  obtain ⟨g3, cap3, rfl, hA3, hcap3, hg3, hg3', hb3⟩ := made_open hm
  have l4 : (four 1).length = 4 := rfl
  rw [l4] at hcap3 ⊢
  have HO3 := Lib.hid (own_keep HO2.out hb3)
  have HOW3 := Lib.hid (own_keep HOW.out hb3)
  have HB3 := Lib.hid (HB2.out.trans (hb3.mono HB2.out.size))
  have hA3' := hA3.drop V
  have hr3 := Rd.of_At (c := cap3 - V) (xs := (vals .u8 (four 1)).drop V) hA3'
  rw [Nat.zero_add] at hr3
  have hl3 : ((vals .u8 (four 1)).drop V).length = 4 - V := by rw [List.length_drop, vals_len, l4]
  rw [hl3] at hr3
  have hcv : ¬ (cap3 = V) := by omega
  have HR3 := Lib.hid hr3
  clear hm hb3 hA3 hA3' hr3 hl3 hg3'
  go_wp2_with (at_builtin; refine app_any rfl _ _ 23 rfl w.heap.size 5 i0 (.int .u8 0) 1 Tryd.underlying23 hi0 hz0 hz1 hz2 rfl _ _ _ rfl HO3.out (some ⟨g3, V, none⟩) (4 - V) (cap3 - V) ((vals .u8 (four 1)).drop V) rfl HR3.out (fun u hu => vals_one _ _ u (List.mem_of_mem_drop hu)) ?d3 ?d4 HB3.out.size ?_)
  case d3 => unfold maxLen; omega
  case d4 => omega
  intro p4 w4 hown4 hgrow4 hnil4
  have hvd : (vals .u8 (four 1)).drop V = vals .u8 (wid W [1]) := by
    rw [vals, ← List.map_drop, show wid W [1] = (four 1).drop (4 - W) by simp [wid], show 4 - W = V by omega]
    rfl
  have ho4 : w4.ownsRow w.heap.size 5 1 p4 (3 + W) (vals .u8 (words [(n : Int)] ++ [(W : Int)] ++ wid W [1])) := by
    rw [hvd, HVW.out, ← vals_app] at hown4
    exact hown4
  have hb4 : Below w.heap.size w w4 := HB3.out.grown hgrow4 HB3.out.size (fun g hg => own_ge HO3.out hg)
  have hn4 : p4 ≠ .slice none 0 0 := fun h => by first | exact hnil4 h | exact HN2.out (hnil4.1 h).1
  have how4 := HOW3.out.kept hgrow4 (own_apart HOW3.out HO3.out (by decide))
  have HO4 := Lib.hid ho4
  have HB4 := Lib.hid hb4
  have HN4 := Lib.hid hn4
  have HOW4 := Lib.hid how4
  clear ho4 hb4 hn4 how4 hown4 hgrow4 hnil4 hvd hcv hcap3 hg3
  go_wp2
  go_loopw [6, 8, 9, 55] (fun b at_ want i wr => ∃ k : Nat, k ≤ n ∧ i = .int .i64 k ∧ at_ = .int .i64 (1 + (ls.take k).sum + (k : Int)) ∧ wr.ownsRow w.heap.size 5 1 b (3 + W * (k + 1)) (vals .u8 (words [(n : Int)] ++ [(W : Int)] ++ wid W (pls (ls.take k)))) ∧ b ≠ .slice none 0 0 ∧
      wr.ownsRow w.heap.size 3 1 want (k + 1) (vals .i64 ((pls (ls.take k)).map fun a => 3 + (R : Int) + a - 1)) ∧ want ≠ .slice none 0 0 ∧ Below w.heap.size w wr) (fun _ _ _ i _ => n - (intOf i).toNat)
  case atStart =>
    refine ⟨0, Nat.zero_le _, rfl, rfl, ?_, HN4.out, ?_, by simp, HB4.out⟩
    · rw [List.take_zero, pls_nil, Nat.zero_add, Nat.mul_one]
      exact HO4.out
    · rw [List.take_zero, pls_nil, Nat.zero_add]
      have := HOW4.out
      simp only [List.map_cons, List.map_nil, vals]
      rw [show (3 : Int) + (R : Int) + 1 - 1 = 3 + (R : Int) by omega]
      exact this
  case round =>
    obtain ⟨k, hk, rfl, rfl, hob, hnb, how, hnw, hbel⟩ := hrel
    by_cases hlt : k < n
    · obtain ⟨x, hx⟩ : ∃ x, x = ls.getD k 0 := ⟨_, rfl⟩
      have hlk : k < ls.length := by rw [← HN.out]; exact hlt
      have hxb : 0 ≤ x ∧ x ≤ 255 := by
        rw [hx, List.getD_eq_getElem?_getD, List.getElem?_eq_getElem hlk]
        exact HL.out _ (List.getElem_mem _)
      have hcell : wr.cell? ⟨b0, off0 + k, none⟩ = some (.int .u8 x) := by
        rw [hx]
        exact (hbel.cell (p := ⟨b0, off0 + k, none⟩) hb0).trans (HA.out.get hlk)
      have hsb := sum_bd (ls.take k) (fun y hy => HL.out y (List.mem_of_mem_take hy))
      have htk := take_snoc ls k hlk
      rw [← hx] at htk
      have hlt2 : (ls.take k).length = k := by rw [List.length_take]; omega
      rw [hlt2] at hsb
      obtain ⟨A, hAA⟩ : ∃ A : Int, A = 1 + (ls.take k).sum + (k : Int) := ⟨_, rfl⟩
      have hpl : pls (ls.take (k + 1)) = pls (ls.take k) ++ [A + (x + 1)] := by rw [htk, pls_snoc, hlt2, hAA]
      have hA2 : 1 + (ls.take (k + 1)).sum + ((k + 1 : Nat) : Int) = A + (x + 1) := by
        rw [htk, List.sum_append, List.sum_cons, List.sum_nil, hAA]; omega
      have hAb : 1 ≤ A ∧ A ≤ 12800 := by omega
      rw [← hAA]
      have HPL := Lib.hid hpl
      have HA2 := Lib.hid hA2
      obtain ⟨hA0', hA1'⟩ := hAb
      have HOB := Lib.hid hob
      have HOW := Lib.hid how
      have HB := Lib.hid hbel
      have HNB := Lib.hid hnb
      have HNW := Lib.hid hnw
      have w5 : IntKind.i64.wrap x = x := IntWalk.i64_in _ (by omega)
      obtain ⟨K, hK⟩ : ∃ K : Nat, K = 3 + W * (k + 1) := ⟨_, rfl⟩
      have hK1 : K + W = 3 + W * (k + 1 + 1) := by rw [hK, Nat.mul_add W (k + 1) 1]; omega
      have hK2 : K ≤ 300 := by
        have : W * (k + 1) ≤ 4 * (k + 1) := Nat.mul_le_mul_right _ hWh
        omega
      rw [← hK] at HOB
      have HK1 := Lib.hid hK1
      clear hob how hbel hnb hnw hx htk hlt2 hpl hA2 hAA hsb hlk hK hK1
      go_wp2_with fail
      refine (Four_any (A + (x + 1)) _).mono ?_
      intro e w5' hm
      obtain ⟨g3, cap3, rfl, hA3, hcap3, hg3, hg3', hb3⟩ := made_open hm
      have l4 : (four (A + (x + 1))).length = 4 := rfl
      rw [l4] at hcap3 ⊢
      have HO3 := Lib.hid (own_keep HOB.out hb3)
      have HOW3 := Lib.hid (own_keep HOW.out hb3)
      have HB3 := Lib.hid (HB.out.trans (hb3.mono HB.out.size))
      have hA3' := hA3.drop V
      have hr3 := Rd.of_At (c := cap3 - V) (xs := (vals .u8 (four (A + (x + 1)))).drop V) hA3'
      rw [Nat.zero_add] at hr3
      have hl3 : ((vals .u8 (four (A + (x + 1)))).drop V).length = 4 - V := by rw [List.length_drop, vals_len, l4]
      rw [hl3] at hr3
      have hcv : ¬ (cap3 = V) := by omega
      have HR3 := Lib.hid hr3
      clear hm hb3 hA3 hA3' hr3 hl3 hg3'
      go_wp2_with (at_builtin; refine app_any rfl _ _ 23 rfl w.heap.size 5 i0 (.int .u8 0) 1 Tryd.underlying23 hi0 hz0 hz1 hz2 rfl _ _ _ rfl HO3.out (some ⟨g3, V, none⟩) (4 - V) (cap3 - V) ((vals .u8 (four (A + (x + 1)))).drop V) rfl HR3.out (fun u hu => vals_one _ _ u (List.mem_of_mem_drop hu)) ?d3 ?d4 HB3.out.size ?_)
      case d3 => unfold maxLen; omega
      case d4 => omega
      intro p6 w6 hown6 hgrow6 hnil6
      have hvd : (vals .u8 (four (A + (x + 1)))).drop V = vals .u8 ((four (A + (x + 1))).drop (4 - W)) := by
        rw [vals, ← List.map_drop, show 4 - W = V by omega]
        rfl
      have ho6 : w6.ownsRow w.heap.size 5 1 p6 (3 + W * (k + 1 + 1)) (vals .u8 (words [(n : Int)] ++ [(W : Int)] ++ wid W (pls (ls.take (k + 1))))) := by
        rw [hvd, HVW.out, ← vals_app] at hown6
        rw [HPL.out, wid_snoc, ← List.append_assoc, ← HK1.out]
        exact hown6
      have hb6 : Below w.heap.size w w6 := HB3.out.grown hgrow6 HB3.out.size (fun g hg => own_ge HO3.out hg)
      have hn6 : p6 ≠ .slice none 0 0 := fun h => by first | exact hnil6 h | exact HNB.out (hnil6.1 h).1
      have how6 := HOW3.out.kept hgrow6 (own_apart HOW3.out HO3.out (by decide))
      have HO6 := Lib.hid ho6
      have HB6 := Lib.hid hb6
      have HN6 := Lib.hid hn6
      have HOW6 := Lib.hid how6
      clear ho6 hb6 hn6 how6 hown6 hgrow6 hnil6 hvd hcv hcap3 hg3
      go_wp2_with (at_builtin; refine wpList_append_own _ rfl _ _ 33 rfl w.heap.size 3 j0 (.int .i64 0) 1 8 Tryd.underlying33 hj0 jz0 jz1 jz2 rfl (by decide) _ _ _ rfl (HOW6.out.alloc _) ⟨w6.heap.size, 0, none⟩ 1 1 [.int .i64 (3 + (R : Int) + (A + (x + 1)) - 1)] rfl rfl ?f1 ?f2 ?f3 ?f4 ?f5 ?_)
      case f1 =>
        intro j u hj
        match j, hj with
        | 0, hj => simp at hj; subst hj; simp [Addr.add]
      case f2 => intro u hu; simp at hu; subst hu; rfl
      case f3 => unfold maxLen; omega
      case f4 => omega
      case f5 => have := HB6.out.size; simp; omega
      intro p7 w7 hown7 hgrow7 hnil7
      have hb7 : Below w.heap.size w w7 := (HB6.out.alloc HB6.out.size _).grown hgrow7 (by have := HB6.out.size; simp; omega) (fun g hg => own_ge HOW6.out hg)
      have hn7 : p7 ≠ .slice none 0 0 := fun h => by first | exact hnil7 h | exact HNW.out (hnil7.1 h).1
      have ho7 : w7.ownsRow w.heap.size 3 1 p7 (k + 1 + 1) (vals .i64 ((pls (ls.take (k + 1))).map fun a => 3 + (R : Int) + a - 1)) := by
        rw [HPL.out, List.map_append, vals_app]
        exact hown7
      have hob7 := (HO6.out.alloc (.cells #[.int .i64 (3 + (R : Int) + (A + (x + 1)) - 1)] 3)).kept hgrow7 (own_apart HO6.out HOW6.out (by decide))
      have HO7 := Lib.hid ho7
      have HB7 := Lib.hid hb7
      have HN7 := Lib.hid hn7
      have HOB7 := Lib.hid hob7
      clear ho7 hb7 hn7 hob7 hown7 hgrow7 hnil7
      go_wp2
      go_roundw
      case rel => exact ⟨k + 1, by omega, by go_num, by rw [HA2.out], HOB7.out, HN6.out, HO7.out, HN7.out, HB7.out⟩
      case measure => simp [intOf]; omega
    · have hkn : k = n := by omega
      subst hkn
      have ht : ls.take k = ls := List.take_of_length_le (by rw [← HN.out]; exact Nat.le_refl _)
      rw [ht] at hob how
      rw [ht]
      have hsb := sum_bd ls HL.out
      obtain ⟨Z, hZ⟩ : ∃ Z : Nat, (Z : Int) = ls.sum + (k : Int) := ⟨(ls.sum + (k : Int)).toNat, by omega⟩
      have hZb : Z ≤ 12800 := by have := HN.out; omega
      have hM : ls.sum + (k : Int) = (Z : Int) := hZ.symm
      obtain ⟨A, hAA⟩ : ∃ A : Int, A = 1 + ls.sum + (k : Int) := ⟨_, rfl⟩
      rw [← hAA]
      have hAb : 1 ≤ A ∧ A ≤ 12801 := by omega
      obtain ⟨hA0', hA1'⟩ := hAb
      have HM := Lib.hid (show A - 1 = (Z : Int) by omega)
      obtain ⟨K, hK⟩ : ∃ K : Nat, K = 3 + W * (k + 1) := ⟨_, rfl⟩
      have hK2 : K ≤ 300 := by
        have : W * (k + 1) ≤ 4 * (k + 1) := Nat.mul_le_mul_right _ hWh
        omega
      rw [← hK] at hob
      obtain ⟨n1, hn1⟩ : ∃ n1 : Nat, n1 = k + 1 := ⟨_, rfl⟩
      rw [← hn1] at how
      obtain ⟨gb, capb, rfl, hAb, hcapb, hgb, hgb'⟩ := own_open hob hnb
      obtain ⟨gw, capw, rfl, hAw, hcapw, hgw, hgw'⟩ := own_open how hnw
      have HOB := Lib.hid hob
      have HAW := Lib.hid how
      have HB := Lib.hid hbel
      have HZ := Lib.hid hZ
      have HK := Lib.hid hK
      have HN1' := Lib.hid hn1
      clear hob how hbel hnb hnw hAb ht hcapb hAw hcapw hgb hgb' hsb hM hAA hZ hK hn1
      go_wp2_with (at_builtin; refine wpList_app_zeros _ rfl _ _ 23 3 rfl w.heap.size 5 i0 (.int .u8 0) 1 Tryd.underlying23 Tryd.underlying3 hi0 hz0 hz1 hz2 rfl rfl gb K capb _ rfl HOB.out Z _ rfl HM.out ?f3 ?f4 HB.out.size ?f5 ?_)
      case f3 => unfold maxLen; omega
      case f4 => omega
      case f5 => omega
      intro p4 w4 hown4 hgrow4 hn4'
      have hb4 : Below w.heap.size w w4 := HB.out.grown hgrow4 HB.out.size (fun g hg => by cases hg; exact own_ge HOB.out rfl)
      have how4 := HAW.out.kept hgrow4 (own_apart HAW.out HOB.out (by decide))
      obtain ⟨g4, cap4, rfl, hA4, hcap4, hg4, hg4'⟩ := own_open hown4 hn4'
      rw [show List.replicate Z (Value.int .u8 0) = vals .u8 (List.replicate Z 0) by simp [vals], ← vals_app] at hA4
      obtain ⟨N4, hN4⟩ : ∃ N4, N4 = K + Z := ⟨_, rfl⟩
      have hAw4 := At.of_own how4
      have hgw4 := (how4.lt gw rfl).2
      have hidx := idx_of ls k W N4 HN.out h0n (by omega) HL.out HW3.out Z HZ.out (by rw [hN4, HK.out])
      have hI := impl_any g4 N4 cap4 k W n1 (pls ls) _ w4 hidx (by rw [pls_len, ← HN.out]; exact HN1'.out) hA4
      have hfr : front W (pls ls) = 3 + (R : Int) := by
        unfold front
        rw [pls_len, ← HN.out, ← HRR.out, Int.natCast_mul]
        rfl
      rw [hfr] at hI
      rw [← hN4]
      have HI := Lib.hid hI
      have HB4 := Lib.hid hb4
      have HAW4 := Lib.hid hAw4
      clear hown4 hgrow4 hn4' hb4 how4 hA4 hcap4 hg4 hg4' hN4 hAw4 hidx hI hfr
      go_wp2_with fail
      refine HI.out.mono ?_
      rintro e w5 ⟨⟨g1, cap1, rfl, hA1, hg1, hg1'⟩, hb5⟩
      have HA1 := Lib.hid hA1
      have HAW5 := Lib.hid (HAW4.out.below (hb5.mono (Nat.le_refl _)) hgw4)
      have HB5 := Lib.hid (HB4.out.trans (hb5.mono HB4.out.size))
      have hn1b : n1 ≤ 51 := by have := HN1'.out; omega
      clear hA1 hb5
      go_wp2
      go_loopw [98] (fun i wr => ∃ j : Nat, j ≤ n1 ∧ i = .int .i64 j ∧ At wr g1 0 (vals .u32 ((pls ls).map fun a => 3 + (R : Int) + a - 1)) ∧ At wr gw 0 (vals .i64 ((pls ls).map fun a => 3 + (R : Int) + a - 1)) ∧ Below w.heap.size w wr) (fun i _ => n1 - (intOf i).toNat)
      case atStart => exact ⟨0, Nat.zero_le _, rfl, HA1.out, HAW5.out, HB5.out⟩
      case round =>
        obtain ⟨j, hj, rfl, hA3, hA4, hb3⟩ := hrel
        by_cases hlt : j < n1
        · have hlj : j < ((pls ls).map fun a => 3 + (R : Int) + a - 1).length := by rw [List.length_map, pls_len, ← HN.out, ← HN1'.out]; exact hlt
          have hjl : j ≤ ls.length := by have := HN.out; have := HN1'.out; omega
          obtain ⟨y, hy⟩ : ∃ y, y = ((pls ls).map fun a => 3 + (R : Int) + a - 1).getD j 0 := ⟨_, rfl⟩
          have hyb : 0 ≤ y ∧ y ≤ 20000 := by
            have hp := pls_at ls j hjl
            rw [List.getD_eq_getElem?_getD, List.getElem?_eq_getElem (by rw [pls_len]; omega)] at hp
            simp only [Option.getD_some] at hp
            rw [hy, List.getD_eq_getElem?_getD, List.getElem?_eq_getElem hlj, Option.getD_some, List.getElem_map, hp]
            have h1 := sum_bd (ls.take j) (fun x hx => HL.out x (List.mem_of_mem_take hx))
            have h3 : (ls.take j).length ≤ 50 := by rw [List.length_take]; have := HN.out; omega
            omega
          have d1 := hA3.get hlj
          have d2 := hA4.get hlj
          rw [← hy, Nat.zero_add] at d1 d2
          have HA3 := Lib.hid hA3
          have HA4 := Lib.hid hA4
          have HB3 := Lib.hid hb3
          have w6 : IntKind.i64.wrap y = y := IntWalk.i64_in _ (by omega)
          have q5 : (j : Int) < (n1 : Int) := by omega
          clear hA3 hA4 hb3 hy hlj hjl
          go_wp2_with fail
          go_region_held3 (fun w' => w'.cell? ⟨g1, j, none⟩ = some (.int .u32 y) ∧ w'.cell? ⟨gw, j, none⟩ = some (.int .i64 y)) (exact ⟨d1, d2⟩) (fail)
          go_wp2
          exact ⟨⟨j + 1, by omega, by go_num, HA3.out, HA4.out, HB3.out.drew⟩, by simp [intOf]; omega⟩
        · have HB3 := Lib.hid hb3
          clear hA3 hA4 hb3
          go_wp2
          go_ret
          exact ⟨rfl, HB3.out⟩

theorem row (a0 : Option Addr) (n cap0 : Nat) (zs : List Int) (wd : Int) (wf : (Lit.int .u8 wd).wf = true) (w : World) (w0 : IsRow .u8 w a0 n cap0 zs) :
    Calls Tryd.prog 6 #[.slice a0 n cap0, .int .u8 wd] w fun e w' => e = .returned (.bool true) ∧ Below w.heap.size w w' := by
  have hf := bounds_u8 wf
  by_cases h1 : (2147483647 : Int) < (n : Int)
  · clear w0 wf
    go_enter Tryd.func6, Tryd.ntmps6
    go_wp2
    go_ret
    exact ⟨rfl, Below.refl _ _⟩
  by_cases h2 : n = 0
  · subst h2
    clear w0 wf
    go_enter Tryd.func6, Tryd.ntmps6
    go_wp2
    go_ret
    exact ⟨rfl, Below.refl _ _⟩
  have h0 : ((n : Int) == 0) = false := by simp; omega
  by_cases h3 : (50 : Int) < (n : Int)
  · clear w0 wf
    go_enter Tryd.func6, Tryd.ntmps6
    go_wp2
    go_ret
    exact ⟨rfl, Below.refl _ _⟩
  have hr := Rd.of_ints w0
  refine walk a0 n cap0 (zs.take n) wd w w0.len.symm (by omega) (by omega) (fun y hy => bounds_u8 (w0.wf y hy)) hf ?_
  rcases a0 with _ | ⟨b, off, spot⟩
  · have := (hr.2.2 rfl).1
    omega
  · have hl := w0.len
    obtain ⟨u, hu⟩ : ∃ u, (vals .u8 (zs.take n))[0]? = some u := ⟨_, List.getElem?_eq_getElem (by rw [vals_len]; omega)⟩
    have hc := hr.2.1 _ rfl 0 u hu
    have hspot : spot = none := by simpa [Addr.add] using World.cell?_spot hc
    subst hspot
    refine ⟨b, off, rfl, World.block_lt_of_cell? w _ hc, fun j v hv => ?_⟩
    have := hr.2.1 _ rfl j v hv
    rwa [Addr.add_lit] at this
end Go.Proofs.YtofidkkihkgagaaDoor.FnCffIndexW
