/- The walk of FnLoca: whatever the arguments, it returns true, and what was in memory before is as it was. -/
import Derived.Test.YtofidkkihkgagaaDoorLocaB
namespace Go.Proofs.YtofidkkihkgagaaDoor.FnLocaW
open Go.ChangeShapes Go.WideShapes Go.ChangeAt Go.RowKit
open Lst Mem SpecB SfntB View FourB LocaB

/-- the places: twice the sums of the steps so far -/
def ats (l : List Int) : List Int := (List.range l.length).map fun j => 2 * (l.take (j + 1)).sum
theorem ats_len (l : List Int) : (ats l).length = l.length := by simp [ats]
theorem ats_snoc (l : List Int) (x : Int) : ats (l ++ [x]) = ats l ++ [2 * l.sum + 2 * x] := by
  unfold ats
  rw [List.length_append, List.length_singleton, List.range_succ, List.map_append]
  congr 1
  · apply List.map_congr_left
    intro j hj
    rw [List.take_append_of_le_length (by have := List.mem_range.1 hj; omega)]
  · have : (l ++ [x]).take (l.length + 1) = l ++ [x] := List.take_of_length_le (by simp)
    simp only [List.map_cons, List.map_nil, this, List.sum_append, List.sum_cons, List.sum_nil]
    congr 1
    omega
theorem sum_bd (l : List Int) (h : ∀ x ∈ l, 0 ≤ x ∧ x ≤ 255) : 0 ≤ l.sum ∧ l.sum ≤ 255 * (l.length : Int) := by
  induction l with
  | nil => simp
  | cons x l ih =>
    have h1 := h x (by simp)
    have h2 := ih (fun y hy => h y (by simp [hy]))
    rw [List.sum_cons, List.length_cons]
    omega
theorem ats_bd (l : List Int) (h : ∀ x ∈ l, 0 ≤ x ∧ x ≤ 255) (hl : l.length ≤ 250) : ∀ y ∈ ats l, (0 ≤ y ∧ y ≤ 127500) ∧ y % 2 = 0 := by
  intro y hy
  simp only [ats, List.mem_map, List.mem_range] at hy
  obtain ⟨j, hj, rfl⟩ := hy
  have h1 := sum_bd (l.take (j + 1)) (fun x hx => h x (List.mem_of_mem_take hx))
  have h2 : (l.take (j + 1)).length ≤ 250 := by rw [List.length_take]; omega
  omega
/-- the bytes of the places -/
def bytes (long : Bool) (l : List Int) : List Int := if long then fours l else words (l.map (· / 2))
theorem bytes_snoc (long : Bool) (l : List Int) (x : Int) : bytes long (l ++ [x]) = bytes long l ++ (if long then four x else [hi (x / 2), lo (x / 2)]) := by
  cases long
  · simp [bytes, words_snoc]
  · simp [bytes, fours_snoc]
theorem bytes_len (long : Bool) (l : List Int) : (bytes long l).length = (if long then 4 else 2) * l.length := by
  cases long
  · simp [bytes, words_len]
  · simp [bytes, fours_len]

theorem own_apart {w : World} {B B' : Nat} {e e' : TypeId} {v v' : Value} {n n' : Nat} {xs xs' : List Value} (h : w.ownsRow B e 1 v n xs) (h' : w.ownsRow B' e' 1 v' n' xs') (hne : e ≠ e') : v.ownBlock = none ∨ v.ownBlock ≠ v'.ownBlock := by
  rcases h.2 with ⟨rfl, _⟩ | ⟨g, cap, cur, rfl, _, hg, _⟩
  · exact .inl rfl
  · rcases h'.2 with ⟨rfl, _⟩ | ⟨g', cap', cur', rfl, _, hg', _⟩
    · exact .inr (by simp [Value.ownBlock])
    · refine .inr fun he => ?_
      simp only [Value.ownBlock, Option.some.injEq] at he
      subst he
      rw [hg] at hg'
      injection hg' with hg'
      injection hg' with _ ht
      exact hne ht
theorem one_at (w : World) (x : Int) : At (w.alloc (.cells #[.int .i64 x] 3)) w.heap.size 0 (vals .i64 [x]) := by
  intro j v hj
  match j, hj with
  | 0, hj => simp [vals] at hj; subst hj; simp
theorem intinfo : (Tryd.prog.info? 3).map (fun i => (i.zero, i.size, i.bytes)) = some (some (.int .i64 0), 1, 8) := by kernel_rfl

theorem loca_any (g c n : Nat) (ls : List Int) (f : Int) (long : Bool) (w : World) (hn : n = ls.length) (h0n : 0 < n) (hsz : n ≤ 250) (hl : ∀ x ∈ ls, 0 ≤ x ∧ x ≤ 255) (hf : 0 ≤ f ∧ f ≤ 268435456)
    (hA : At w g 0 (vals .u8 (bytes long (ats ls)))) :
    Calls Tryd.prog 11 #[.slice (some ⟨g, 0, none⟩) (bytes long (ats ls)).length c, .int .u32 f, .bool long, .int .i64 ((n : Int) - 1)] w
      fun e w' => (∃ g1 cap, e = .returned (.tuple #[.slice (some ⟨g1, 0, none⟩) n cap, .bool true]) ∧ At w' g1 0 (vals .u32 ((ats ls).map (· + f))) ∧ w.heap.size ≤ g1 ∧ g1 < w'.heap.size) ∧ Below w.heap.size w w' := by
  obtain ⟨m, hm⟩ : ∃ m, m + 1 = n := ⟨n - 1, by omega⟩
  have em : (n : Int) - 1 = (m : Int) := by omega
  have hL : ((ats ls).map (· + f)).length = n := by rw [List.length_map, ats_len, hn]
  have hal : (ats ls).length = n := by rw [ats_len, hn]
  have hbd := ats_bd ls hl (by omega)
  have hbl : (bytes long (ats ls)).length ≤ 1000 := by rw [bytes_len, ats_len]; cases long <;> simp <;> omega
  rw [em]
  have hi := impl_any g (bytes long (ats ls)).length c (bytes long (ats ls)) ((ats ls).map (· + f)) f (m : Int) long w rfl (by omega) hA (by omega) (by omega) (fun sb g c w1 hs hc hA1 hsb hg => ?_)
  · rw [hL] at hi
    exact hi
  · cases long
    · have hq : (((ats ls).map (· / 2)).map (2 * · + f)) = (ats ls).map (· + f) := by
        rw [List.map_map]
        apply List.map_congr_left
        intro y hy
        have := hbd y hy
        simp only [Function.comp]
        omega
      have hbe : (bytes false (ats ls)).length = 2 * n := by rw [bytes_len, hal]; simp
      rw [hbe] at hs hc ⊢
      have h := short_any sb g n m c ((ats ls).map (· / 2)) f w1 (by rw [List.length_map, hal]) hm (by omega) hc hg hsb hf.1 (fun x hx => by
        simp only [List.mem_map] at hx
        obtain ⟨y, hy, rfl⟩ := hx
        have := hbd y hy
        omega) hs hA1
      rw [hq, show 2 * (n : Int) = ((2 * n : Nat) : Int) by omega] at h
      refine h.mono ?_
      rintro e w2 ⟨⟨g1, rfl, hA2⟩, hb⟩
      exact ⟨⟨g1, n, by rw [hL], hA2⟩, hb⟩
    · have hbe : (bytes true (ats ls)).length = 4 * n := by rw [bytes_len, hal]; simp
      rw [hbe] at hs hc ⊢
      have h := long_any sb g n m c (ats ls) f w1 hal.symm hm (by omega) hc hg hsb hf.1 (fun x hx => by
        have := hbd x hx
        omega) hs hA1
      rw [show 4 * (n : Int) = ((4 * n : Nat) : Int) by omega] at h
      refine h.mono ?_
      rintro e w2 ⟨⟨g1, rfl, hA2⟩, hb⟩
      exact ⟨⟨g1, n, by rw [hL], hA2⟩, hb⟩

set_option maxHeartbeats 3200000 in
set_option maxRecDepth 3000 in
theorem walk (a0 : Option Addr) (n cap0 : Nat) (ls : List Int) (f : Int) (long : Bool) (w : World) (hn : n = ls.length) (h0n : 0 < n) (hsz : n ≤ 250) (hl : ∀ x ∈ ls, 0 ≤ x ∧ x ≤ 255) (hf : 0 ≤ f ∧ f ≤ 268435456)
    (hsrc : ∃ b off, a0 = some ⟨b, off, none⟩ ∧ b < w.heap.size ∧ At w b off (vals .u8 ls)) :
    Calls Tryd.prog 5 #[.slice a0 n cap0, .int .u32 f, .bool long] w fun e w' => e = .returned (.bool true) ∧ Below w.heap.size w w' := by
  obtain ⟨i0, hi0, hz0, hz1, hz2⟩ := info_parts u8info
  obtain ⟨j0, hj0, jz0, jz1, jz2⟩ := info_parts intinfo
  obtain ⟨b0, off0, rfl, hb0, hA0⟩ := hsrc
  obtain ⟨hf0, hf1⟩ := hf
  have HN := Lib.hid hn
  have HL := Lib.hid hl
  have HA := Lib.hid hA0
  clear hn hl hA0
  have e1 : ¬ ((2147483647 : Int) < n) := by omega
  have e2 : ¬ ((250 : Int) < n) := by omega
  have e3 : ((n : Int) == 0) = false := by simp; omega
  have e4 : ¬ (268435456 : Int) < f := by omega
  have w0 : IntKind.i64.wrap f = f := IntWalk.i64_in _ (by omega)
  go_enter Tryd.func5, Tryd.ntmps5
  go_wp2
  go_loopw [7, 8, 9, 34] (fun at_ b want i wr => ∃ k : Nat, k ≤ n ∧ i = .int .i64 k ∧ at_ = .int .i64 (2 * (ls.take k).sum) ∧ wr.ownsRow w.heap.size 5 1 b (bytes long (ats (ls.take k))).length (vals .u8 (bytes long (ats (ls.take k)))) ∧ b ≠ .slice none 0 0 ∧
      wr.ownsRow w.heap.size 3 1 want k (vals .i64 ((ats (ls.take k)).map (· + f))) ∧ want ≠ .slice none 0 0 ∧ Below w.heap.size w wr) (fun _ _ _ i _ => n - (intOf i).toNat)
  case atStart =>
    refine ⟨0, Nat.zero_le _, rfl, rfl, ?_, by simp, ?_, by simp, ((Below.refl _ _).alloc (Nat.le_refl _) _).alloc (by simp) _⟩
    · cases long <;> exact (made_row w _).alloc _
    · have h := World.ownsRow_made (base := w.heap.size) (e := 3) (size := 1) (w.alloc (.cells #[] 5)) #[] 0 (by simp) (Nat.zero_le _) (by simp)
      rw [World.size_alloc] at h
      exact h
  case round =>
    obtain ⟨k, hk, rfl, rfl, hob, hnb, how, hnw, hbel⟩ := hrel
    by_cases hlt : k < n
    · obtain ⟨x, hx⟩ : ∃ x, x = ls.getD k 0 := ⟨_, rfl⟩
      have hlk : k < ls.length := by rw [← HN.out]; exact hlt
      have hxb : 0 ≤ x ∧ x ≤ 255 := by
        rw [hx, List.getD_eq_getElem?_getD, List.getElem?_eq_getElem hlk]
        exact HL.out _ (List.getElem_mem _)
      have hcell : wr.cell? ⟨b0, off0 + k, none⟩ = some (.int .u8 x) := by
        rw [hx]
        exact (hbel.cell (p := ⟨b0, off0 + k, none⟩) hb0).trans (HA.out.get hlk)
      have hsb := sum_bd (ls.take k) (fun y hy => HL.out y (List.mem_of_mem_take hy))
      have htk := take_snoc ls k hlk
      rw [← hx] at htk
      have hlt2 : (ls.take k).length = k := by rw [List.length_take]; omega
      rw [hlt2] at hsb
      have hsum : (ls.take (k + 1)).sum = (ls.take k).sum + x := by rw [htk, List.sum_append, List.sum_cons, List.sum_nil, Int.add_zero]
      have hats : ats (ls.take (k + 1)) = ats (ls.take k) ++ [2 * (ls.take k).sum + 2 * x] := by rw [htk, ats_snoc]
      obtain ⟨S, hS⟩ : ∃ S, S = (ls.take k).sum := ⟨_, rfl⟩
      rw [← hS] at hsb hsum hats ⊢
      have HT := Lib.hid hats
      have HSUM := Lib.hid hsum
      obtain ⟨hs0, hs1⟩ := hsb
      have hs2 : S ≤ 63750 := by omega
      have HOB := Lib.hid hob
      have HOW := Lib.hid how
      have HB := Lib.hid hbel
      have HNB := Lib.hid hnb
      have HNW := Lib.hid hnw
      have w5 : IntKind.i64.wrap x = x := IntWalk.i64_in _ (by omega)
      have q1 : (2 * S + 2 * x) / 2 = S + x := by omega
      clear hob how hbel hnb hnw hx htk hlt2 hsum hats hS hs1 hlk
      go_wp2_with (at_builtin; refine wpList_append_own _ rfl _ _ 33 rfl w.heap.size 3 j0 (.int .i64 0) 1 8 Tryd.underlying33 hj0 jz0 jz1 jz2 rfl (by decide) _ _ _ rfl (HOW.out.alloc _) ⟨wr.heap.size, 0, none⟩ 1 1 [.int .i64 (2 * S + 2 * x + f)] rfl rfl ?c1 ?c2 ?c3 ?c4 ?c5 ?_)
      case c1 =>
        intro j u hj
        match j, hj with
        | 0, hj => simp at hj; subst hj; simp [Addr.add]
      case c2 => intro u hu; simp at hu; subst hu; rfl
      case c3 => unfold maxLen; omega
      case c4 => omega
      case c5 => have := HB.out.size; simp; omega
      intro v1 w1 hown1 hgrow1 hnil1
      have hb1 : Below w.heap.size w w1 := (HB.out.alloc HB.out.size _).grown hgrow1 (by have := HB.out.size; simp; omega) (fun g hg => own_ge HOW.out hg)
      have hn1 : v1 ≠ .slice none 0 0 := fun h => by first | exact hnil1 h | exact HNW.out (hnil1.1 h).1
      have ho1 : w1.ownsRow w.heap.size 3 1 v1 (k + 1) (vals .i64 ((ats (ls.take (k + 1))).map (· + f))) := by
        rw [HT.out, List.map_append, vals_app]
        exact hown1
      have hob1 := (HOB.out.alloc (.cells #[.int .i64 (2 * S + 2 * x + f)] 3)).kept hgrow1 (own_apart HOB.out HOW.out (by decide))
      have HO1 := Lib.hid ho1
      have HB1 := Lib.hid hb1
      have HN1 := Lib.hid hn1
      have HOB1 := Lib.hid hob1
      clear ho1 hb1 hn1 hob1 hown1 hgrow1 hnil1
      have r1 : 2 * S + 2 * x = 2 * (S + x) := by omega
      have R1 := Lib.hid r1
      clear r1
      cases long
      · go_wp2_with fail
        refine (words_any w1.heap.size 0 1 [S + x] (w1.alloc (.cells #[.int .i64 (S + x)] 3)) (by simp) (one_at w1 (S + x)) (by simp; omega) (by simp)).mono ?_
        intro e w2 hm
        obtain ⟨g2, cap2, rfl, hA2, hcap2, hg2, hg2', hb2⟩ := made_open hm
        have l2 : (words [S + x]).length = 2 := rfl
        rw [l2]
        have hr2 := Rd.of_At (c := cap2) hA2
        rw [vals_len, l2] at hr2
        have HR2 := Lib.hid hr2
        have HB2 := Lib.hid ((HB1.out.alloc HB1.out.size _).trans (hb2.mono (by have := HB1.out.size; simp; omega)))
        have HOW2 := Lib.hid (own_keep (HO1.out.alloc _) hb2)
        have HOB2 := Lib.hid (own_keep (HOB1.out.alloc _) hb2)
        have hbl : (bytes false (ats (ls.take k))).length ≤ 1000 := by rw [bytes_len, ats_len, List.length_take]; simp; omega
        clear hm hb2 hA2 hr2
        go_wp2_with (at_builtin; refine app_any rfl _ _ 23 rfl w.heap.size 5 i0 (.int .u8 0) 1 Tryd.underlying23 hi0 hz0 hz1 hz2 rfl _ _ _ rfl HOB2.out (some ⟨g2, 0, none⟩) 2 cap2 (vals .u8 (words [S + x])) rfl HR2.out (vals_one _ _) ?d3 ?d4 HB2.out.size ?_)
        case d3 => unfold maxLen; omega
        case d4 => omega
        intro v3 w3 hown3 hgrow3 hnil3
        have hb3 : Below w.heap.size w w3 := HB2.out.grown hgrow3 HB2.out.size (fun g hg => own_ge HOB2.out hg)
        have hn3 : v3 ≠ .slice none 0 0 := fun h => by first | exact hnil3 h | exact HNB.out (hnil3.1 h).1
        have how3 := HOW2.out.kept hgrow3 (own_apart HOW2.out HOB2.out (by decide))
        have hls : bytes false (ats (ls.take (k + 1))) = bytes false (ats (ls.take k)) ++ words [S + x] := by rw [HT.out, bytes_snoc]; rw [show (2 * S + 2 * x) / 2 = S + x by omega]; rfl
        have hob3 : w3.ownsRow w.heap.size 5 1 v3 (bytes false (ats (ls.take (k + 1)))).length (vals .u8 (bytes false (ats (ls.take (k + 1))))) := by
          rw [hls, List.length_append, l2, vals_app]
          exact hown3
        have HB3 := Lib.hid hb3
        have HOB3 := Lib.hid hob3
        have HOW3 := Lib.hid how3
        have HN3 := Lib.hid hn3
        clear hb3 hob3 how3 hn3 hown3 hgrow3 hnil3 hls
        go_wp2
        go_roundw
        case rel => exact ⟨k + 1, by omega, by go_num, by rw [HSUM.out]; go_num, HOB3.out, HN3.out, HOW3.out, HN1.out, HB3.out⟩
        case measure => simp [intOf]; omega
      · go_wp2_with fail
        refine (Four_any (2 * S + 2 * x) w1).mono ?_
        intro e w2 hm
        obtain ⟨g2, cap2, rfl, hA2, hcap2, hg2, hg2', hb2⟩ := made_open hm
        have l2 : (four (2 * S + 2 * x)).length = 4 := rfl
        rw [l2]
        have hr2 := Rd.of_At (c := cap2) hA2
        rw [vals_len, l2] at hr2
        have HR2 := Lib.hid hr2
        have HB2 := Lib.hid (HB1.out.trans (hb2.mono (by have := HB1.out.size; simp; omega)))
        have HOW2 := Lib.hid (own_keep HO1.out hb2)
        have HOB2 := Lib.hid (own_keep HOB1.out hb2)
        have hbl : (bytes true (ats (ls.take k))).length ≤ 1000 := by rw [bytes_len, ats_len, List.length_take]; simp; omega
        clear hm hb2 hA2 hr2
        go_wp2_with (at_builtin; refine app_any rfl _ _ 23 rfl w.heap.size 5 i0 (.int .u8 0) 1 Tryd.underlying23 hi0 hz0 hz1 hz2 rfl _ _ _ rfl HOB2.out (some ⟨g2, 0, none⟩) 4 cap2 (vals .u8 (four (2 * S + 2 * x))) rfl HR2.out (vals_one _ _) ?d3 ?d4 HB2.out.size ?_)
        case d3 => unfold maxLen; omega
        case d4 => omega
        intro v3 w3 hown3 hgrow3 hnil3
        have hb3 : Below w.heap.size w w3 := HB2.out.grown hgrow3 HB2.out.size (fun g hg => own_ge HOB2.out hg)
        have hn3 : v3 ≠ .slice none 0 0 := fun h => by first | exact hnil3 h | exact HNB.out (hnil3.1 h).1
        have how3 := HOW2.out.kept hgrow3 (own_apart HOW2.out HOB2.out (by decide))
        have hls : bytes true (ats (ls.take (k + 1))) = bytes true (ats (ls.take k)) ++ four (2 * S + 2 * x) := by rw [HT.out, bytes_snoc]; rfl
        have hob3 : w3.ownsRow w.heap.size 5 1 v3 (bytes true (ats (ls.take (k + 1)))).length (vals .u8 (bytes true (ats (ls.take (k + 1))))) := by
          rw [hls, List.length_append, l2, vals_app]
          exact hown3
        have HB3 := Lib.hid hb3
        have HOB3 := Lib.hid hob3
        have HOW3 := Lib.hid how3
        have HN3 := Lib.hid hn3
        clear hb3 hob3 how3 hn3 hown3 hgrow3 hnil3 hls
        go_wp2
        go_roundw
        case rel => exact ⟨k + 1, by omega, by go_num, by rw [HSUM.out]; go_num, HOB3.out, HN3.out, HOW3.out, HN1.out, HB3.out⟩
        case measure => simp [intOf]; omega
    · have hkn : k = n := by omega
      subst hkn
      have ht : ls.take k = ls := List.take_of_length_le (by rw [← HN.out]; exact Nat.le_refl _)
      rw [ht] at hob how
      obtain ⟨gb, capb, rfl, hAb, hcapb, hgb, hgb'⟩ := own_open hob hnb
      obtain ⟨gw, capw, rfl, hAw, hcapw, hgw, hgw'⟩ := own_open how hnw
      have HI := Lib.hid (loca_any gb capb k ls f long wr HN.out h0n hsz HL.out ⟨hf0, hf1⟩ hAb)
      have HB := Lib.hid hbel
      clear hob how hbel hnb hnw hAb ht hcapb
      go_wp2_with fail
      refine HI.out.mono ?_
      rintro e w2 ⟨⟨g1, cap1, rfl, hA1, hg1, hg1'⟩, hb2⟩
      have hAw2 := hAw.below (hb2.mono (Nat.le_refl _)) hgw
      have HA1 := Lib.hid hA1
      have HAW := Lib.hid hAw2
      have HB2 := Lib.hid (HB.out.trans (hb2.mono HB.out.size))
      clear hA1 hAw hAw2 hb2
      go_wp2
      have hb4 := ats_bd ls HL.out (by rw [← HN.out]; omega)
      have HB4 := Lib.hid hb4
      clear hb4
      go_loopw [83] (fun i wr => ∃ j : Nat, j ≤ k ∧ i = .int .i64 j ∧ At wr g1 0 (vals .u32 ((ats ls).map (· + f))) ∧ At wr gw 0 (vals .i64 ((ats ls).map (· + f))) ∧ Below w.heap.size w wr) (fun i _ => k - (intOf i).toNat)
      case atStart => exact ⟨0, Nat.zero_le _, rfl, HA1.out, HAW.out, HB2.out⟩
      case round =>
        obtain ⟨j, hj, rfl, hA3, hA4, hb3⟩ := hrel
        by_cases hlt : j < k
        · have hlj : j < ((ats ls).map (· + f)).length := by rw [List.length_map, ats_len, ← HN.out]; exact hlt
          obtain ⟨y, hy⟩ : ∃ y, y = ((ats ls).map (· + f)).getD j 0 := ⟨_, rfl⟩
          have hyb : 0 ≤ y ∧ y ≤ 268600000 := by
            rw [hy, List.getD_eq_getElem?_getD, List.getElem?_eq_getElem hlj]
            have hm : ((ats ls).map (· + f))[j] ∈ (ats ls).map (· + f) := List.getElem_mem _
            simp only [List.mem_map] at hm
            obtain ⟨z, hz, he⟩ := hm
            have := HB4.out z hz
            simp only [Option.getD_some]
            rw [← he]
            omega
          have d1 := hA3.get hlj
          have d2 := hA4.get hlj
          rw [← hy, Nat.zero_add] at d1 d2
          have HA3 := Lib.hid hA3
          have HA4 := Lib.hid hA4
          have HB3 := Lib.hid hb3
          have w6 : IntKind.i64.wrap y = y := IntWalk.i64_in _ (by omega)
          have q5 : (j : Int) < (k : Int) := by omega
          clear hA3 hA4 hb3 hy hlj
          go_wp2_with fail
          go_region_held3 (fun w' => w'.cell? ⟨g1, j, none⟩ = some (.int .u32 y) ∧ w'.cell? ⟨gw, j, none⟩ = some (.int .i64 y)) (exact ⟨d1, d2⟩) (fail)
          go_wp2
          exact ⟨⟨j + 1, by omega, by go_num, HA3.out, HA4.out, HB3.out.drew⟩, by simp [intOf]; omega⟩
        · have hB := hb3
          clear hA3 hA4 hb3
          have HB3 := Lib.hid hB
          clear hB
          go_wp2
          go_ret
          exact ⟨rfl, HB3.out⟩

theorem row (a0 : Option Addr) (n cap0 : Nat) (zs : List Int) (f : Int) (wf : (Lit.int .u32 f).wf = true) (long : Bool) (w : World) (w0 : IsRow .u8 w a0 n cap0 zs) :
    Calls Tryd.prog 5 #[.slice a0 n cap0, .int .u32 f, .bool long] w fun e w' => e = .returned (.bool true) ∧ Below w.heap.size w w' := by
  have hf := bounds_u32 wf
  by_cases h1 : (2147483647 : Int) < (n : Int)
  · clear w0 wf
    go_enter Tryd.func5, Tryd.ntmps5
    go_wp2
    go_ret
    exact ⟨rfl, Below.refl _ _⟩
  by_cases h2 : n = 0
  · subst h2
    clear w0 wf
    go_enter Tryd.func5, Tryd.ntmps5
    go_wp2
    go_ret
    exact ⟨rfl, Below.refl _ _⟩
  have h0 : ((n : Int) == 0) = false := by simp; omega
  by_cases h3 : (250 : Int) < (n : Int)
  · clear w0 wf
    go_enter Tryd.func5, Tryd.ntmps5
    go_wp2
    go_ret
    exact ⟨rfl, Below.refl _ _⟩
  by_cases h4 : (268435456 : Int) < f
  · clear w0 wf
    go_enter Tryd.func5, Tryd.ntmps5
    go_wp2
    go_ret
    exact ⟨rfl, Below.refl _ _⟩
  have hr := Rd.of_ints w0
  refine walk a0 n cap0 (zs.take n) f long w w0.len.symm (by omega) (by omega) (fun y hy => bounds_u8 (w0.wf y hy)) ⟨hf.1, by omega⟩ ?_
  rcases a0 with _ | ⟨b, off, spot⟩
  · have := (hr.2.2 rfl).1
    omega
  · have hl := w0.len
    obtain ⟨u, hu⟩ : ∃ u, (vals .u8 (zs.take n))[0]? = some u := ⟨_, List.getElem?_eq_getElem (by rw [vals_len]; omega)⟩
    have hc := hr.2.1 _ rfl 0 u hu
    have hspot : spot = none := by simpa [Addr.add] using World.cell?_spot hc
    subst hspot
    refine ⟨b, off, rfl, World.block_lt_of_cell? w _ hc, fun j v hv => ?_⟩
    have := hr.2.1 _ rfl j v hv
    rwa [Addr.add_lit] at this
end Go.Proofs.YtofidkkihkgagaaDoor.FnLocaW
