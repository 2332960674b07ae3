/- Contract of the export that answers letters. -/
import Derived.Test.YthcdolgmifkfdaaDoorCmpS
namespace Go.Proofs.YthcdolgmifkfdaaDoor.CmpT
open Go.ChangeShapes Go.WideShapes Go.ChangeAt Go.RowKit
open Lst Mem RowG SpecB GlyM CadL FourB View VewZ CmpL CmpC CmpM CmpS
set_option linter.unusedSimpArgs false
set_option linter.unusedVariables false
abbrev FT : TypeId := 97
noncomputable def fz : Array Value := match (Tryd.prog.info? FT).bind (·.zero) with
  | some (.agg cs) => cs
  | _ => #[]
theorem fz_run (w : World) : (zeroValue FT).run Tryd.prog w = .ok (.agg fz) w := by kernel_rfl
theorem fz_big : Nat.ble 5 fz.size = true := by kernel_rfl
def ZcP (rs : List Int) (f : Int → Int) (w : World) (e : Ending) (w' : World) : Prop :=
  ∃ v, e = .returned (.tuple #[v, .nilIface]) ∧ w'.ownsRow w.heap.size 100 1 v rs.length (vals .u16 (rs.map f)) ∧ Below w.heap.size w w'
/-- where numbers can be read -/
def NAt (k : IntKind) (w : World) (A : Option Addr) (xs : List Int) : Prop := ∀ i, i < xs.length → ∃ g, A = some ⟨g, 0, none⟩ ∧ w.cell? ⟨g, i, none⟩ = some (.int k (xs.getD i 0))
theorem NAt.below {k : IntKind} {w w' : World} {A : Option Addr} {xs : List Int} (h : NAt k w A xs) (hb : Below w.heap.size w w') : NAt k w' A xs := fun i hi => by
  obtain ⟨g, e, h1⟩ := h i hi
  exact ⟨g, e, (hb.cell (p := ⟨g, i, none⟩) (World.block_lt_of_cell? w _ h1)).trans h1⟩
theorem nat_own {k : IntKind} {w : World} {B : Nat} {e : TypeId} {v : Value} {xs : List Int} (h : w.ownsRow B e 1 v xs.length (vals k xs)) : ∃ A c, v = .slice A xs.length c ∧ NAt k w A xs := by
  by_cases hn : v = .slice none 0 0
  · have h0 : xs.length = 0 := by
      rcases h.2 with ⟨_, h⟩ | ⟨_, _, _, h, _⟩
      · exact h
      · rw [hn] at h; cases h
    exact ⟨none, 0, by rw [hn, h0], fun i hi => by omega⟩
  · obtain ⟨g, c, hv, hA, _⟩ := own_open h hn
    refine ⟨_, c, hv, fun i hi => ⟨g, rfl, ?_⟩⟩
    have := hA.get hi
    rwa [Nat.zero_add] at this
section
variable {P : Program}
theorem einfo16 : (Tryd.prog.info? 100).map (fun i => (i.zero, i.size, i.bytes)) = some (some (.int .u16 0), 1, 2) := by kernel_rfl
/-- append of one element onto a row of the call's own -/
theorem app_one {ops : Array Oper} {rest : List Oper} {o : Oper} {a : Act} {K : Exit → Act → World → Prop} {w w0 : World} (hgd : o.guard = none) (s x : Operand) (t : TypeId)
    (ho : o.op = .call { callee := .builtin .append, args := #[s, x], argTypes := #[t, t] }) (e : TypeId) (i : TypeInfo) (z : Value) (bytes : Nat) (ht : P.underlying t = some (.slice e)) (hi : P.info? e = some i) (hz : i.zero = some z)
    (hsize : i.size = 1) (hby : i.bytes = bytes) (hzs : z.cells.size = 1) (v : Value) (n : Nat) (xs : List Value) (hs : a.eval s = v) (hown : w.ownsRow w0.heap.size e 1 v n xs) (hb : Below w0.heap.size w0 w)
    (u : Value) (t' : TypeId) (hx : a.eval x = .slice (some ⟨w.heap.size, 0, none⟩) 1 1) (h1 : u.oneCell' = true) (hn : n ≤ 100000) (h8 : bytes ≤ 8)
    (h : ∀ v' w', w'.ownsRow w0.heap.size e 1 v' (n + 1) (xs ++ [u]) → Below w0.heap.size w0 w' → wpList P ops K rest (a.put o.dst v') w') : wpList P ops K (o :: rest) a (w.alloc (.cells #[u] t')) := by
  have hr : Rd (w.alloc (.cells #[u] t')) (some ⟨w.heap.size, 0, none⟩) 1 1 [u] := Rd.of_At (c := 1) fun j y hj => by
    match j, hj with
    | 0, hj => simp at hj; subst hj; simp
  refine app_any hgd s x t ho w0.heap.size e i z bytes ht hi hz hsize hby hzs v n xs hs (hown.alloc _) _ 1 1 [u] hx hr (by simpa using h1) ?_ ?_ ?_ ?_
  · unfold maxLen; omega
  · have := Nat.mul_le_mul (show n + 1 ≤ 100001 by omega) h8; omega
  · have := hb.size; simp; omega
  · intro v' w' h2 h3 h4
    exact h v' w' h2 ((hb.alloc hb.size _).grown h3 (by have := hb.size; simp; omega) (fun g hg => (own_isT hown hg).2))
end
set_option maxHeartbeats 4000000 in
set_option maxRecDepth 100000 in
theorem zz_any (g N c off len gr cr : Nat) (AR : Option Addr) (Q : Int → Prop) (f : Int → Int) (fm : Int) (T : List Int) (rs : List Int) (w : World) (hT : Tab Q f fm T) (hA : At w g off (vals .u8 T)) (hl : len = T.length) (hn : N = off + len) (hnc : N ≤ c) (ho : off ≤ 100) (hN : N ≤ 100000)
    (hR : NAt .i32 w AR rs) (hrs : ∀ r ∈ rs, Q r) (h200 : rs.length ≤ 200) :
    Calls Tryd.prog 13 #[.slice (some ⟨g, 0, none⟩) N c, .int .u32 (off : Int), .int .u32 (len : Int), .int .u16 fm, .slice AR rs.length cr] w (ZcP rs f w) := by
  have wN : IntKind.u32.wrap (N : Int) = (N : Int) := IntWalk.u32_in _ (by omega)
  have zr := fz_run
  have z5 : 5 ≤ fz.size := Nat.le_of_ble_eq_true fz_big
  have q5 : ¬ fz.size < 5 := by omega
  have q2 : ¬ fz.size < 2 := by omega
  have HT := Lib.hid (And.intro hT (And.intro hA (And.intro hl (And.intro hn (And.intro hnc ho)))))
  have HR := Lib.hid (And.intro hR (And.intro hrs h200))
  clear hT hA hl hn hnc ho hR hrs h200
  go_enter Tryd.func13, Tryd.ntmps13
  go_upto_region 2 with (fail)
  obtain ⟨fa, hfa⟩ : ∃ F, F = (((fz.setIfInBounds 0 (Value.slice (some { block := g, off := 0 }) N c)).setIfInBounds 1 Value.nilIface).setIfInBounds 3 (Value.int IntKind.u32 0)).setIfInBounds 4 (Value.int IntKind.u32 ↑N) := ⟨_, rfl⟩
  obtain ⟨fb, hfb⟩ : ∃ f, f = w.heap.size := ⟨_, rfl⟩
  obtain ⟨W1, hW1⟩ : ∃ X, X = w.alloc (.cells fa FT) := ⟨_, rfl⟩
  have g0 : fa.toList[0]? = some (.slice (some ⟨g, 0, none⟩) N c) := by
    rw [hfa]; simp [List.getElem?_set]; intro h; rw [h] at z5; simp at z5
  have g3 : fa.toList[3]? = some (.int .u32 0) := by
    rw [hfa]; simp [List.getElem?_set]; omega
  have g4 : fa.toList[4]? = some (.int .u32 N) := by
    rw [hfa]; simp [List.getElem?_set]; omega
  have hb1 : Blk fb FT fa.toList W1 := by rw [hW1, hfb]; exact Blk.new_ w fa FT
  have hd1 : Below w.heap.size w W1 := by rw [hW1]; exact bel_made w fa FT
  have hF1 : Fc fb g N c W1 := ⟨hb1.cell g0, hb1.cell g3, hb1.cell g4⟩
  have HM := Lib.hid (mgi_any fb g N c off len Q f fm T W1 HT.out.1 hF1 (below_at HT.out.2.1 hd1) HT.out.2.2.1 HT.out.2.2.2.1 HT.out.2.2.2.2.1 HT.out.2.2.2.2.2)
  have HD := Lib.hid hd1
  rw [← hfa, ← hfb, ← hW1]
  clear hfa hfb hW1 g0 g3 g4 hb1 hd1 hF1 z5 q5 q2 zr wN
  go_wp2_with fail
  refine HM.out.mono ?_
  rintro e W2 ⟨buf, V, rfl, hclo, hd2⟩
  obtain ⟨fid, caps, rfl, eg, hcl⟩ := hclo
  have HC := Lib.hid hcl
  have HD2 := Lib.hid (HD.out.trans (hd2.mono HD.out.size))
  clear hcl hd2
  obtain ⟨m, hm⟩ : ∃ m, m = rs.length := ⟨_, rfl⟩
  have m200 : m ≤ 200 := by rw [hm]; exact HR.out.2.2
  have HMR := Lib.hid hm
  rw [← hm]
  clear hm
  obtain ⟨i0, hi0, hz0, hz1, hz2⟩ := info_parts einfo16
  go_wp2_with fail
  go_loopw [43, 16, 18, 19, 20, 47] (fun ii out _ _ _ _ wr => ∃ k : Nat, ii = .int .i64 k ∧ k ≤ m ∧ wr.ownsRow W2.heap.size 100 1 out k (vals .u16 ((rs.take k).map f)) ∧ Below W2.heap.size W2 wr) (fun ii _ _ _ _ _ _ => m - (intOf ii).toNat)
  case atStart => exact ⟨0, rfl, Nat.zero_le _, World.ownsRow_nil W2 _ _ _, Below.refl _ _⟩
  case round =>
    obtain ⟨k, rfl, hk, hown, hbel⟩ := hrel
    obtain ⟨W, hW⟩ : ∃ W, W = wr := ⟨_, rfl⟩
    subst hW
    by_cases hlt : k < m
    · have hlr : k < rs.length := by rw [← HMR.out]; exact hlt
      obtain ⟨ga, rfl, a0⟩ := ((HR.out.1.below HD2.out).below hbel) k hlr
      obtain ⟨r, hr⟩ : ∃ r, rs.getD k 0 = r := ⟨_, rfl⟩
      rw [hr] at a0
      have hQ : Q r := by
        rw [← hr, List.getD_eq_getElem?_getD, List.getElem?_eq_getElem hlr]
        exact HR.out.2.1 _ (List.getElem_mem _)
      have HCR := Lib.hid (HC.out r W hQ hbel)
      have HX := Lib.hid (And.intro hr (And.intro hbel hown))
      clear hbel hown hr hQ
      go_wp2_with fail
      refine HCR.out.mono ?_
      rintro e W3 ⟨rfl, hb3⟩
      have h4 : W3.ownsRow W2.heap.size 100 1 u16 k (vals .u16 ((rs.take k).map f)) := own_keep HX.out.2.2 hb3
      have h5 : Below W2.heap.size W2 W3 := HX.out.2.1.trans (hb3.mono HX.out.2.1.size)
      have HX2 := Lib.hid (And.intro hb3 (And.intro h4 h5))
      clear hb3 h4 h5
      go_wp2_with ((with_reducible refine Gate.append ?_) <;> refine app_one rfl _ _ _ rfl _ i0 _ 2 Tryd.underlying62 hi0 hz0 hz1 hz2 rfl _ k _ rfl HX2.out.2.1 HX2.out.2.2 _ _ (by rfl) (by rfl) (by omega) (by decide) ?_; intro v5 W5 ho5 hb5; have HX5 := Lib.hid (And.intro ho5 hb5); clear ho5 hb5)
      go_roundw
      case rel =>
        refine ⟨k + 1, by go_num, hlt, ?_, HX5.out.2⟩
        have e : vals .u16 ((rs.take (k + 1)).map f) = vals .u16 ((rs.take k).map f) ++ [.int .u16 (f r)] := by
          rw [take_snoc rs k hlr, HX.out.1, List.map_append, vals_app]
          rfl
        rw [e]
        exact HX5.out.1
      case measure => simp [intOf]; omega
    · obtain rfl : k = m := by omega
      have HX := Lib.hid (And.intro hbel hown)
      clear hbel hown
      go_wp2
      go_ret2
      refine ⟨u16, rfl, ?_, HD2.out.trans (HX.out.1.mono HD2.out.size)⟩
      have h1 := HX.out.2
      rw [HMR.out, List.take_length] at h1
      exact own_base' h1 HD2.out.size
end Go.Proofs.YthcdolgmifkfdaaDoor.CmpT
