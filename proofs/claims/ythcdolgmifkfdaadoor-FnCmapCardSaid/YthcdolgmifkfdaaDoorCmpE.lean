/- Pieces of the walk of the statement on letters' glyphs. -/
import Derived.Test.YthcdolgmifkfdaaDoorCmpD
import Derived.Test.YthcdolgmifkfdaaDoorCadB
namespace Go.Proofs.YthcdolgmifkfdaaDoor.CmpE
open Go.ChangeShapes Go.WideShapes Go.ChangeAt Go.RowKit
open Lst Mem RowG SpecB SfntB GlyM GlyN GlyO MadN CadL CadF CmpL CmpS CmpT CmpU CmpV CmpD CmpX CmpQ CmpR CmpM CmpN
set_option linter.unusedSimpArgs false
set_option linter.unusedVariables false
theorem few_any (a0 a1 : Option Addr) (n c0 m c1 : Nat) (w : World) : Calls Tryd.prog 4 #[.slice a0 n c0, .slice none 0 0, .slice a1 m c1] w fun e w' => e = .returned (.bool (decide (n ≤ 100 ∧ m ≤ 1000))) ∧ w = w' := by
  by_cases h1 : n ≤ 100
  · have h1i : (n : Int) ≤ 100 := by omega
    by_cases h2 : m ≤ 1000
    · have h2i : (m : Int) ≤ 1000 := by omega
      rw [decide_eq_true (show n ≤ 100 ∧ m ≤ 1000 from ⟨h1, h2⟩)]
      go_enter Tryd.func4, Tryd.ntmps4
      go_wp2
      go_ret
      exact ⟨rfl, rfl⟩
    · have h2i : ¬ (m : Int) ≤ 1000 := by omega
      rw [decide_eq_false (show ¬ (n ≤ 100 ∧ m ≤ 1000) from fun h => h2 h.2)]
      go_enter Tryd.func4, Tryd.ntmps4
      go_wp2
      go_ret
      exact ⟨rfl, rfl⟩
  · have h1i : ¬ (n : Int) ≤ 100 := by omega
    rw [decide_eq_false (show ¬ (n ≤ 100 ∧ m ≤ 1000) from fun h => h1 h.1)]
    go_enter Tryd.func4, Tryd.ntmps4
    go_wp2
    go_ret
    exact ⟨rfl, rfl⟩
theorem al_any {t : TypeId} {zs : List Value} {ops : Array Oper} {rest : List Oper} {o : Oper} {a : Act} {w : World} {Q : Exit → Act → World → Prop} (hgd : o.guard = none) (ho : o.op = .alloc t) (hz : (zeroValue t).run Tryd.prog w = .ok (.agg zs.toArray) w)
    (h : ∀ Z, w.alloc (.cells zs.toArray t) = Z → wpList Tryd.prog ops Q rest (a.put o.dst (.pointer (some ⟨w.heap.size, 0, none⟩))) Z) : wpList Tryd.prog ops Q (o :: rest) a w := by
  refine wpList_plain hgd fun K hK => ?_
  unfold Oper.wp execOp
  simp only [ho]
  have := hK _ _ (h _ rfl)
  clear h hK
  go_simp
  exact this
theorem made_zero (w : World) : (zeroValue 36).run Tryd.prog w = .ok (.agg mz.toArray) w := by kernel_rfl
theorem made_info : (Tryd.prog.info? 36).map (·.size) = some 28 := by kernel_rfl
theorem src_of {k : IntKind} {w : World} {a : Option Addr} {n cap : Nat} {zs : List Int} (h : IsRow k w a n cap zs) (hn : 0 < n) : ∃ b off, a = some ⟨b, off, none⟩ ∧ b < w.heap.size ∧ At w b off (vals k (zs.take n)) := by
  have hr := Rd.of_ints h
  rcases a with _ | ⟨b, off, spot⟩
  · have := (hr.2.2 rfl).1
    omega
  · have hl := h.len
    obtain ⟨u, hu⟩ : ∃ u, (vals k (zs.take n))[0]? = some u := ⟨_, List.getElem?_eq_getElem (by rw [vals_len]; omega)⟩
    have hc := hr.2.1 _ rfl 0 u hu
    have hspot : spot = none := by simpa [Addr.add] using World.cell?_spot hc
    subst hspot
    refine ⟨b, off, rfl, World.block_lt_of_cell? w _ hc, fun j v hv => ?_⟩
    have := hr.2.1 _ rfl j v hv
    rwa [Addr.add_lit] at this
/-- letters of the call's own, not nil -/
def Oi (w0 w : World) (v : Value) (l : List Int) : Prop := w.ownsRow w0.heap.size 21 1 v l.length (vals .i32 l) ∧ v ≠ .slice none 0 0 ∧ Below w0.heap.size w0 w
theorem Oi.keep {w0 w w' : World} {v : Value} {l : List Int} (h : Oi w0 w v l) (hb : Below w.heap.size w w') : Oi w0 w' v l := ⟨own_keep h.1 hb, h.2.1, h.2.2.trans (hb.mono h.2.2.size)⟩
theorem Oi.start {w0 w w' : World} {v : Value} {l : List Int} (hb : Below w0.heap.size w0 w) (h : Oi w w' v l) : Oi w0 w' v l := ⟨own_base' h.1 hb.size, h.2.1, hb.trans (h.2.2.mono hb.size)⟩
section
variable {ops : Array Oper} {rest : List Oper} {o : Oper} {a : Act} {K : Act → World → Prop} {Q : Exit → Act → World → Prop} {w w0 : World} {E : Prop}
theorem app_i (hgd : o.guard = none) (s x : Operand) (ho : o.op = .call { callee := .builtin .append, args := #[s, x], argTypes := #[39, 39] })
    (v : Value) (l : List Int) (y : Int) (hs : a.eval s = v) (hx : a.eval x = .slice (some ⟨w.heap.size, 0, none⟩) 1 1) (hO : Oi w0 w v l) (hsz : l.length ≤ 1000)
    (h : ∀ v' w', Oi w0 w' v' (l ++ [y]) → wpList Tryd.prog ops Q rest (a.put o.dst v') w') : wpList Tryd.prog ops Q (o :: rest) a (w.alloc (.cells #[.int .i32 y] 21)) := by
  obtain ⟨i0, hi0, hz0, hz1, hz2⟩ := info_parts infoi32
  have hr : Rd (w.alloc (.cells #[.int .i32 y] 21)) (some ⟨w.heap.size, 0, none⟩) 1 1 (vals .i32 [y]) := Rd.of_At (c := 1) (at_fresh w .i32 [y] 21)
  have hO2 := hO.keep (bel_made w #[.int .i32 y] 21)
  refine app_any hgd s x 39 ho w0.heap.size 21 i0 (.int .i32 0) 4 Tryd.underlying39 hi0 hz0 hz1 hz2 rfl v l.length (vals .i32 l) hs hO2.1 _ 1 1 _ hx hr (vals_one _ _) (by unfold maxLen; omega) (by omega) hO2.2.2.size ?_
  intro v' w' h1 h2 h3
  exact h v' w' ⟨by rw [List.length_append, vals_app]; exact h1, fun e => hO.2.1 (h3.1 e).1, hO2.2.2.grown h2 hO2.2.2.size (fun g hg => own_ge hO2.1 hg)⟩
/-- append of bytes that came in, in a region that draws -/
theorem step_b (hgd : o.guard = none) (s x : Operand) (ho : o.op = .call { callee := .builtin .append, args := #[s, x], argTypes := #[25, 25] })
    (v : Value) (l : List Int) (hs : a.eval s = v) (hO : Ob w0 w v l) (A : Option Addr) (n c : Nat) (xs : List Int) (hx : a.eval x = .slice A n c) (hr : Rd w A n c (vals .u8 xs)) (hsz : l.length + n ≤ 1000000)
    (h : ∀ v' w', Ob w0 w' v' (l ++ xs) → K (a.put o.dst v') w') : if Region.wanted o (yielded ops a.tmps) = true then Oper.wp Tryd.prog o a w K Q else E := by
  obtain ⟨i0, hi0, hz0, hz1, hz2⟩ := info_parts u8info
  have hw : Region.wanted o (yielded ops a.tmps) = true := by simp [Region.wanted, hgd]
  rw [if_pos hw]
  rcases A with _ | ad
  · obtain ⟨rfl, rfl⟩ := hr.2.2 rfl
    obtain rfl : xs = [] := List.eq_nil_of_length_eq_zero (by have := hr.1; rwa [vals_len] at this)
    have hrun := run_append_owned_none (P := Tryd.prog) (w := w) w0.heap.size 25 o.type 5 i0 1 Tryd.underlying25 hi0 v l.length (vals .u8 l) hO.1
    unfold Oper.wp
    simp [execOp, ho, resolve, invoke, builtin, hs, hx, hrun, Result.andThen]
    exact h v w (by rw [List.append_nil]; exact hO)
  · have hl : (vals .u8 xs).length = n := hr.1
    have hl2 : n = xs.length := by rw [vals_len] at hl; exact hl.symm
    have := step_app2 (P := Tryd.prog) (ops := ops) (o := o) (a := a) (w := w) (K := K) (Q := Q) (E := E) hgd s x 25 ho w0.heap.size 5 i0 (.int .u8 0) 1 1 Tryd.underlying25 hi0 hz0 hz1 hz2 rfl (by decide) v l.length (vals .u8 l) hs hO.1 ad n c (vals .u8 xs) hx (by rw [hl, Nat.mul_one]) (hr.2.1 ad rfl) (vals_one _ _) (by unfold maxLen; omega) (by omega) hO.2.2.size (fun v' w' h1 h2 h3 _ => h v' w' ⟨by rw [List.length_append, vals_app, ← hl2]; exact h1, fun e => hO.2.1 (h3.1 e).1, hO.2.2.grown h2 hO.2.2.size (fun g hg => own_ge hO.1 hg)⟩)
    rwa [if_pos hw] at this
/-- a struct loaded whole, in a region that draws -/
theorem step_load (hgd : o.guard = none) (x : Operand) (ho : o.op = .load 36 x) (g : Nat) (hx : a.eval x = .pointer (some ⟨g, 0, none⟩)) (cs : List Value) (hg : Blk g 36 cs w) (hl : cs.length = 28)
    (h : K (a.put o.dst (.agg cs.toArray)) w) : if Region.wanted o (yielded ops a.tmps) = true then Oper.wp Tryd.prog o a w K Q else E := by
  have hw : Region.wanted o (yielded ops a.tmps) = true := by simp [Region.wanted, hgd]
  rw [if_pos hw]
  exact wp_load_row 36 x ho g hx 36 cs.toArray (0, 0) _ hg Tryd.underlying36 rfl (made_info.trans (by simp [hl])) h
end
theorem tab_len {Q : Int → Prop} {f : Int → Int} {fm : Int} {T : List Int} (h : Tab Q f fm T) : T.length ≤ 5000 := by
  cases h with
  | t0 hs bs h6 hl _ _ => rw [List.length_append, h6, hl]; decide
  | t6 f0 es _ hl _ _ => rw [words_len, L6_len]; omega
  | t12 ps h40 _ _ _ => rw [tab12_len]; omega
  | t4 hd SG gl h7 _ hl hgl _ _ _ => rw [words_len, L4_len h7]; omega
end Go.Proofs.YthcdolgmifkfdaaDoor.CmpE
