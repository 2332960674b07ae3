/- Contract: the glyph of a letter in a made font. -/
import Derived.Test.YthcdolgmifkfdaaDoorCadL
import Derived.Test.YthcdolgmifkfdaaDoorGate
namespace Go.Proofs.YthcdolgmifkfdaaDoor.CmpL
open Go.ChangeShapes Go.WideShapes Go.ChangeAt Go.RowKit
open Lst Mem RowG GlyM CadL
set_option linter.unusedSimpArgs false
set_option linter.unusedVariables false
/-- the glyph of a letter; 0 where it has none -/
def look : List Pr → Int → Int
  | [], _ => 0
  | p :: ps, r => if p.1 = r then p.2 else look ps r
theorem look_hit : ∀ (ps : List Pr) (k : Nat) (r : Int), k < ps.length → (∀ i, i < k → (ps.getD i (0, 0)).1 ≠ r) → (ps.getD k (0, 0)).1 = r → look ps r = (ps.getD k (0, 0)).2
  | [], k, _, h, _, _ => absurd h (by simp)
  | p :: ps, 0, r, _, _, e => by
    simp only [List.getD_cons_zero] at e ⊢
    rw [look, if_pos e]
  | p :: ps, k + 1, r, h, h2, e => by
    have h0 := h2 0 (by omega)
    simp only [List.getD_cons_zero] at h0
    rw [look, if_neg h0]
    simp only [List.getD_cons_succ] at e ⊢
    exact look_hit ps k r (by simpa using h) (fun i hi => by have := h2 (i + 1) (by omega); simpa using this) e
theorem look_none : ∀ (ps : List Pr) (r : Int), (∀ i, i < ps.length → (ps.getD i (0, 0)).1 ≠ r) → look ps r = 0
  | [], _, _ => rfl
  | p :: ps, r, h => by
    have h0 := h 0 (by simp)
    simp only [List.getD_cons_zero] at h0
    rw [look, if_neg h0]
    exact look_none ps r (fun i hi => by have := h (i + 1) (by simpa using hi); simpa using this)
theorem look_bd {ps : List Pr} (h : ∀ p ∈ ps, 1 ≤ p.2 ∧ p.2 ≤ 9) (r : Int) : 0 ≤ look ps r ∧ look ps r ≤ 9 := by
  induction ps with
  | nil => simp [look]
  | cons p ps ih =>
    rw [look]
    split
    · have := h p (by simp); omega
    · exact ih fun q hq => h q (by simp [hq])
/-- where the letters can be read -/
def PrAt (w : World) (A : Option Addr) (ps : List Pr) : Prop := ∀ i, i < ps.length → ∃ g, A = some ⟨g, 0, none⟩ ∧ w.cell? ⟨g, i * 2, none⟩ = some (.int .i64 (ps.getD i (0, 0)).1) ∧ w.cell? ⟨g, i * 2 + 1, none⟩ = some (.int .i64 (ps.getD i (0, 0)).2)
theorem PrAt.below {w w' : World} {A : Option Addr} {ps : List Pr} (h : PrAt w A ps) (hb : Below w.heap.size w w') : PrAt w' A ps := fun i hi => by
  obtain ⟨g, e, h1, h2⟩ := h i hi
  exact ⟨g, e, (hb.cell (p := ⟨g, i * 2, none⟩) (World.block_lt_of_cell? w _ h1)).trans h1, (hb.cell (p := ⟨g, i * 2 + 1, none⟩) (World.block_lt_of_cell? w _ h2)).trans h2⟩
theorem pr_at {w : World} {B : Nat} {PV : Value} {ps : List Pr} (h : w.ownsRow B 41 2 PV ps.length (ps.flatMap pc)) : ∃ A c, PV = .slice A ps.length c ∧ PrAt w A ps := by
  by_cases hn : PV = .slice none 0 0
  · have h0 : ps.length = 0 := by
      rcases h.2 with ⟨_, h⟩ | ⟨_, _, _, h, _⟩
      · exact h
      · rw [hn] at h; cases h
    exact ⟨none, 0, by rw [hn, h0], fun i hi => by omega⟩
  · obtain ⟨g, c, hv, hA, _⟩ := open_row h hn
    refine ⟨_, c, hv, fun i hi => ⟨g, rfl, ?_, ?_⟩⟩
    · have := RowG.at_flat pc_len (0, 0) hA hi (r := 0) (by omega) rfl
      rw [Nat.mul_comm 2 i] at this
      exact this
    · have := RowG.at_flat pc_len (0, 0) hA hi (r := 1) (by omega) rfl
      rw [Nat.mul_comm 2 i] at this
      exact this
theorem box_any {cs : List Value} {ops : Array Oper} {rest : List Oper} {o : Oper} {a : Act} {w : World} {Q : Exit → Act → World → Prop} {x : Operand} (hgd : o.guard = none) (ho : o.op = .box 36 x) (hx : a.eval x = .agg cs.toArray)
    (h : ∀ Z, w.alloc (.cells cs.toArray 36) = Z → wpList Tryd.prog ops Q rest (a.put o.dst (.pointer (some ⟨w.heap.size, 0, none⟩))) Z) : wpList Tryd.prog ops Q (o :: rest) a w := by
  refine wpList_plain hgd fun K hK => ?_
  unfold Oper.wp execOp
  simp only [ho, hx]
  have := hK _ _ (h _ rfl)
  clear h hK
  go_simp
  exact this
set_option maxRecDepth 4000 in
theorem lookup_any (cs : List Value) (A : Option Addr) (n cp : Nat) (ps : List Pr) (r : Int) (w : World) (hc5 : cs[5]? = some (.slice A n cp)) (hn : n = ps.length) (h40 : n ≤ 40) (hat : PrAt w A ps) :
    Calls Tryd.prog 8 #[.agg cs.toArray, .int .i64 r] w fun e w' => e = .returned (.int .i64 (look ps r)) ∧ Below w.heap.size w w' := by
  have HN := Lib.hid hn
  have HA := Lib.hid hat
  have HC := Lib.hid hc5
  clear hat hn hc5
  go_enter Tryd.func8, Tryd.ntmps8
  go_wp2_with (first | (refine box_any rfl rfl rfl ?_; intro Z hZ; have hbZ : Blk w.heap.size 36 cs Z := (by rw [← hZ]; exact Blk.new_ w cs.toArray 36); have c5 := hbZ.cell HC.out; have hdZ : Below w.heap.size w Z := (by rw [← hZ]; exact bel_made w cs.toArray 36)) | fail)
  have HD := Lib.hid hdZ
  clear hZ hbZ hdZ
  go_loopw [10] (fun i wr => ∃ k : Nat, i = .int .i64 k ∧ k ≤ n ∧ Below w.heap.size w wr ∧ ∀ i, i < k → (ps.getD i (0, 0)).1 ≠ r) (fun i _ => n - (intOf i).toNat)
  case atStart => exact ⟨0, rfl, Nat.zero_le _, HD.out, fun i hi => by omega⟩
  case round =>
    clear HD c5
    obtain ⟨k, rfl, hk, hbel, hno⟩ := hrel
    obtain ⟨W, hW⟩ : ∃ W, W = wr := ⟨_, rfl⟩
    subst hW
    by_cases hlt : k < n
    · obtain ⟨g, rfl, a0, a1⟩ := (HA.out.below hbel) k (by rw [← HN.out]; exact hlt)
      obtain ⟨x, hx⟩ : ∃ x, (ps.getD k (0, 0)).1 = x := ⟨_, rfl⟩
      obtain ⟨y, hy⟩ : ∃ y, (ps.getD k (0, 0)).2 = y := ⟨_, rfl⟩
      rw [hx] at a0
      rw [hy] at a1
      have HX := Lib.hid (And.intro hx (And.intro hy (And.intro hbel (And.intro hno hlt))))
      clear hbel hno hx hy
      by_cases hxr : x = r
      · have h1 : (x == r) = true := by simp [hxr]
        have HR := Lib.hid hxr
        clear hxr
        go_wp2
        go_ret
        exact ⟨by rw [look_hit ps k r (by rw [← HN.out]; exact hlt) HX.out.2.2.2.1 (HX.out.1.trans HR.out), HX.out.2.1]; rfl, HX.out.2.2.1.alloc HX.out.2.2.1.size _⟩
      · have h1 : (x == r) = false := by simp [hxr]
        have HR := Lib.hid hxr
        clear hxr
        go_wp2
        go_roundw
        case rel =>
          refine ⟨k + 1, by go_num, hlt, HX.out.2.2.1.alloc HX.out.2.2.1.size _, fun i hi => ?_⟩
          by_cases hik : i < k
          · exact HX.out.2.2.2.1 i hik
          · obtain rfl : i = k := by omega
            rw [HX.out.1]
            exact HR.out
        case measure => simp [intOf]; omega
    · obtain rfl : k = n := by omega
      have HX := Lib.hid (And.intro hbel hno)
      clear hbel hno
      go_wp2
      go_ret
      exact ⟨by rw [look_none ps r (fun i hi => HX.out.2 i (by rw [HN.out]; exact hi))]; rfl, HX.out.1⟩
end Go.Proofs.YthcdolgmifkfdaaDoor.CmpL
