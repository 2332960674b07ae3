/- Contract of the table of letters of format 6. -/
import Derived.Test.YthcdolgmifkfdaaDoorCmpV
namespace Go.Proofs.YthcdolgmifkfdaaDoor.CmpW
open Go.ChangeShapes Go.WideShapes Go.ChangeAt Go.RowKit
open Lst Mem RowG SpecB SfntB GlyM CadL FourB View AppZ CmpL CmpC CmpM CmpN CmpS CmpT CmpU CmpV
set_option linter.unusedSimpArgs false
set_option linter.unusedVariables false
theorem made_info : (Tryd.prog.info? 36).map (·.size) = some 28 := by kernel_rfl
/-- the glyphs of m letters from one on -/
def glys (ps : List Pr) (f0 : Int) (m : Nat) : List Int := (List.range m).map fun (j : Nat) => CmpL.look ps (f0 + (j : Int))
theorem glys_len (ps : List Pr) (f0 : Int) (m : Nat) : (glys ps f0 m).length = m := by simp [glys]
theorem glys_snoc (ps : List Pr) (f0 : Int) (m : Nat) : glys ps f0 (m + 1) = glys ps f0 m ++ [CmpL.look ps (f0 + (m : Int))] := by simp [glys, List.range_succ]
set_option maxHeartbeats 2000000 in
set_option maxRecDepth 4000 in
theorem tb6n (cs : List Value) (A : Option Addr) (cp : Nat) (w : World) (hc5 : cs[5]? = some (.slice A 0 cp)) (hc6 : cs[6]? = some (.int .i64 6)) :
    Calls Tryd.prog 6 #[.agg cs.toArray] w fun e w' => ∃ v, e = .returned v ∧ Ob w w' v (words (L6 0 [])) := by
  have HC := Lib.hid (And.intro hc5 hc6)
  clear hc5 hc6
  go_enter Tryd.func6, Tryd.ntmps6
  go_wp2_with (first | (refine box_any rfl rfl rfl ?_; intro Z hZ; have hbZ : Blk w.heap.size 36 cs Z := (by rw [← hZ]; exact Blk.new_ w cs.toArray 36); have c5 := hbZ.cell HC.out.1; have c6 := hbZ.cell HC.out.2; have hdZ : Below w.heap.size w Z := (by rw [← hZ]; exact bel_made w cs.toArray 36)) | fail)
  have HD := Lib.hid (And.intro hdZ hbZ)
  clear hZ hbZ hdZ c5 c6
  refine (words_new (L6 0 []) 5 Z rfl (by simp [L6]) (by omega)).mono ?_
  rintro e W1 ⟨v1, rfl, hO1⟩
  have HO := Lib.hid (Ob.start HD.out.1 hO1)
  clear hO1
  go_wp2_with fail
  go_ret
  exact ⟨_, rfl, HO.out⟩
set_option maxHeartbeats 4000000 in
set_option maxRecDepth 4000 in
theorem tb6 (cs : List Value) (A : Option Addr) (n cp : Nat) (ps : List Pr) (w : World) (hc5 : cs[5]? = some (.slice A n cp)) (hc6 : cs[6]? = some (.int .i64 6)) (hcl : cs.length = 28) (hn : n = ps.length) (h0 : 0 < n) (h40 : n ≤ 40) (hat : PrAt w A ps)
    (hps : ∀ p ∈ ps, (0 ≤ p.1 ∧ p.1 ≤ 300) ∧ (1 ≤ p.2 ∧ p.2 ≤ 9)) (m : Nat) (hm : (ps.getD (n - 1) (0, 0)).1 = (ps.getD 0 (0, 0)).1 + (m : Int) - 1) (hm0 : 0 < m) :
    Calls Tryd.prog 6 #[.agg cs.toArray] w fun e w' => ∃ v, e = .returned v ∧ Ob w w' v (words (L6 (ps.getD 0 (0, 0)).1 (glys ps (ps.getD 0 (0, 0)).1 m))) := by
  have hmem : ∀ k, k < n → ps.getD k (0, 0) ∈ ps := fun k hk => by
    rw [List.getD_eq_getElem?_getD, List.getElem?_eq_getElem (by omega)]
    exact List.getElem_mem _
  have hb0 := (hps _ (hmem 0 h0)).1
  have hb1 := (hps _ (hmem (n - 1) (by omega))).1
  obtain ⟨g, rfl, f0, _⟩ := hat 0 (by omega)
  obtain ⟨g', hgg, l0, _⟩ := hat (n - 1) (by omega)
  obtain rfl : g = g' := by cases hgg; rfl
  obtain ⟨p, hp⟩ : ∃ p, p = n - 1 := ⟨_, rfl⟩
  rw [← hp] at l0 hm hb1
  obtain ⟨x, hx⟩ : ∃ x, (ps.getD 0 (0, 0)).1 = x := ⟨_, rfl⟩
  obtain ⟨y, hy⟩ : ∃ y, (ps.getD p (0, 0)).1 = y := ⟨_, rfl⟩
  rw [hx] at f0 hm hb0 ⊢
  rw [hy] at l0 hm hb1
  have wp : IntKind.i64.wrap ((n : Int) - 1) = (p : Int) := by rw [show (n : Int) - 1 = (p : Int) by omega]; exact IntWalk.i64_in _ (by omega)
  have w1 : IntKind.i64.wrap (y - x) = (m : Int) - 1 := by rw [show y - x = (m : Int) - 1 by omega]; exact IntWalk.i64_in _ (by omega)
  have w2 : IntKind.i64.wrap ((m : Int) - 1 + 1) = (m : Int) := by rw [show (m : Int) - 1 + 1 = (m : Int) by omega]; exact IntWalk.i64_in _ (by omega)
  have w3 : IntKind.i64.wrap (2 * (m : Int)) = 2 * (m : Int) := IntWalk.i64_in _ (by omega)
  have w4 : IntKind.i64.wrap (10 + 2 * (m : Int)) = 10 + 2 * (m : Int) := IntWalk.i64_in _ (by omega)
  have e0 : ((n : Int) == 0) = false := by simp; omega
  have p0 : p < n := by omega
  have HN := Lib.hid (And.intro hn (And.intro hm (And.intro hb0 (And.intro hb1 (And.intro hm0 hp)))))
  have HA := Lib.hid hat
  have HC := Lib.hid (And.intro hc5 (And.intro hc6 hcl))
  have HP := Lib.hid hps
  have HF := Lib.hid (And.intro f0 l0)
  have m300 : m ≤ 301 := by omega
  clear hat hn hc5 hc6 hcl hps f0 l0 hm hb0 hb1 hmem hgg hx hy hm0 hp
  go_enter Tryd.func6, Tryd.ntmps6
  go_wp2_with (first | (refine box_any rfl rfl rfl ?_; intro Z hZ; have hbZ : Blk w.heap.size 36 cs Z := (by rw [← hZ]; exact Blk.new_ w cs.toArray 36); have c5 := hbZ.cell HC.out.1; have c6 := hbZ.cell HC.out.2.1; have hdZ : Below w.heap.size w Z := (by rw [← hZ]; exact bel_made w cs.toArray 36); have f0 := below_cell HF.out.1 hdZ; have l0 := below_cell HF.out.2 hdZ) | fail)
  have HD := Lib.hid (And.intro hdZ hbZ)
  clear hZ hbZ hdZ
  go_quiet (fail)
  obtain ⟨Z1, hZ1⟩ : ∃ Y, Y = Z.drewN nq := ⟨_, rfl⟩
  have hdZ1 : Below w.heap.size w Z1 := by rw [hZ1]; exact below_drawn HD.out.1 _
  have hbZ1 : Blk w.heap.size 36 cs Z1 := by rw [hZ1]; exact HD.out.2
  have HZ1 := Lib.hid (And.intro hdZ1 hbZ1)
  rw [← hZ1]
  clear hZ1 c5 c6 f0 l0 hdZ1 hbZ1
  go_wp2_with fail
  refine (words_new [6, 10 + 2 * (m : Int), 0, x, (m : Int)] 5 Z1 rfl (by have := HN.out; simp; omega) (by omega)).mono ?_
  rintro e W1 ⟨v1, rfl, hO1⟩
  have HO := Lib.hid hO1
  clear hO1
  go_wp2_with fail
  go_loopw [9, 8] (fun i v wr => ∃ k : Nat, i = .int .i64 (x + (k : Int)) ∧ k ≤ m ∧ Ob Z1 wr v (words ([6, 10 + 2 * (m : Int), 0, x, (m : Int)] ++ glys ps x k))) (fun i _ _ => m - (intOf i - x).toNat)
  case atStart => exact ⟨0, by simp, Nat.zero_le _, HO.out⟩
  case round =>
    obtain ⟨k, rfl, hk, hO⟩ := hrel
    have hB := HZ1.out.2.keep hO.2.2
    obtain ⟨W, hW⟩ : ∃ W, W = wr := ⟨_, rfl⟩
    subst hW
    by_cases hlt : k < m
    · have q1 : x + (k : Int) ≤ y := by have := HN.out; omega
      have q2 : IntKind.i64.wrap (x + (k : Int) + 1) = x + ((k + 1 : Nat) : Int) := by rw [IntWalk.i64_in _ (by have := HN.out; omega)]; omega
      have hh : W.heap[w.heap.size]? = some (.cells cs.toArray 36 (0, 0)) := hB
      obtain ⟨r, hr⟩ : ∃ r, r = x + (k : Int) := ⟨_, rfl⟩
      have hlk := CmpL.lookup_any cs (some ⟨g, 0, none⟩) n cp ps r W HC.out.1 HN.out.1 h40 ((HA.out.below HZ1.out.1).below hO.2.2)
      have HLK := Lib.hid hlk
      have HX := Lib.hid (And.intro hr hO)
      rw [← hr] at q1 q2
      rw [← hr]
      clear hO hB hr hlk
      go_wp2_with ((with_reducible refine Gate.load (t := 36) ?_); refine wpList_load_row rfl 36 _ rfl w.heap.size rfl 36 cs.toArray (0, 0) _ hh rfl rfl (made_info.trans (by simp [HC.out.2.2])) ?_)
      refine HLK.out.mono ?_
      rintro e W3 ⟨rfl, hb3⟩
      obtain ⟨u, hu⟩ : ∃ u, u = CmpL.look ps r := ⟨_, rfl⟩
      have hub := CmpL.look_bd (fun p hp => (HP.out p hp).2) r
      rw [← hu] at hub ⊢
      have HX3 := Lib.hid (And.intro hu (HX.out.2.keep hb3))
      clear hu hb3
      go_wp2_with fail
      refine (words_new [u] 1 W3 rfl (by simp; omega) (by omega)).mono ?_
      rintro e W4 ⟨v4, rfl, hO4⟩
      have HX4 := Lib.hid (HX3.out.2.keep hO4.2.2)
      have HR4 := Lib.hid hO4
      have hll : (words ([6, 10 + 2 * (m : Int), 0, x, (m : Int)] ++ glys ps x k)).length + (words [u]).length ≤ 1000000 := by
        rw [words_len, words_len, List.length_append, glys_len]; simp; omega
      clear hO4
      go_wp2_with ((with_reducible refine Gate.append ?_); refine app_bb rfl _ _ rfl _ _ _ _ rfl rfl HX4.out HR4.out hll ?_; intro v5 W5 hO5; have HX5 := Lib.hid hO5; clear hO5)
      go_roundw
      case rel =>
        refine ⟨k + 1, by go_num, hlt, ?_⟩
        rw [glys_snoc, ← HX.out.1, ← HX3.out.1, ← List.append_assoc, words_app]
        exact HX5.out
      case measure => have := HX.out.1; simp [intOf]; omega
    · obtain rfl : k = m := by omega
      have q1 : ¬ (x + (k : Int) ≤ y) := by have := HN.out; omega
      have HX := Lib.hid hO
      clear hO hB
      go_wp2_with fail
      go_ret
      refine ⟨_, rfl, ?_⟩
      have h := Ob.start HZ1.out.1 HX.out
      rw [L6, glys_len]
      exact h
end Go.Proofs.YthcdolgmifkfdaaDoor.CmpW
