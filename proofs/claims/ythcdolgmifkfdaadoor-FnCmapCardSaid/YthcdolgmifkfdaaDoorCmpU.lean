/- Contracts of the thin package over the letters' reading. -/
import Derived.Test.YthcdolgmifkfdaaDoorCmpT
import Derived.BigQuiet
namespace Go.Proofs.YthcdolgmifkfdaaDoor.CmpU
open Go.ChangeShapes Go.WideShapes Go.ChangeAt Go.RowKit
open Lst Mem RowG SpecB SfntB GlyM CadL FourB View VewZ CmpL CmpC CmpM CmpS CmpT
set_option linter.unusedSimpArgs false
set_option linter.unusedVariables false
theorem below_drawn {B : Nat} {a w : World} (h : Below B a w) (n : Nat) : Below B a (w.drewN n) := ⟨h.os, h.tape, h.output, h.size, h.block⟩
theorem infoi32 : (Tryd.prog.info? 21).map (fun i => (i.zero, i.size, i.bytes)) = some (some (.int .i32 0), 1, 4) := by kernel_rfl
theorem i64info : (Tryd.prog.info? 3).map (fun i => (i.zero, i.size, i.bytes)) = some (some (.int .i64 0), 1, 8) := by kernel_rfl
/-- a slice of letters of the call's own, not nil -/
def MadeR (B : Nat) (l : List Int) (w : World) (e : Ending) (w' : World) : Prop :=
  ∃ v, e = .returned v ∧ w'.ownsRow B 21 1 v l.length (vals .i32 l) ∧ v ≠ .slice none 0 0 ∧ Below B w w'
set_option maxHeartbeats 1000000 in
theorem cloner_any (b off c : Nat) (l : List Int) (w : World) (hA : At w b off (vals .i32 l)) (hsz : l.length ≤ 1000000) :
    Calls Tryd.prog 15 #[.slice (some ⟨b, off, none⟩) l.length c] w (MadeR w.heap.size l w) := by
  obtain ⟨i0, hi0, hz0, hz1, hz2⟩ := info_parts infoi32
  have HA := Lib.hid hA
  clear hA
  obtain ⟨n, hn⟩ : ∃ n, n = l.length := ⟨_, rfl⟩
  rw [← hn] at hsz ⊢
  have HN := Lib.hid hn
  clear hn
  have q := fun (w : World) (a : Option Addr) (n c n' c' : Nat) => Lib.run_eql_slice_nil (P := Tryd.prog) w 39 21 a n c n' c' Tryd.underlying39
  go_enter Tryd.func15, Tryd.ntmps15
  go_wp2_with (at_builtin; refine wpList_append_own _ rfl _ _ 39 rfl w.heap.size 21 i0 (.int .i32 0) 1 4 Tryd.underlying39 hi0 hz0 hz1 hz2 rfl (by decide) _ _ _ rfl (made_row w _) ⟨b, off, none⟩ n c (vals .i32 l) rfl ?c1 ?c2 ?c3 ?c4 ?c5 ?c6 ?_)
  case c1 => rw [vals_len, ← HN.out]; omega
  case c2 =>
    intro j u hj
    rw [Addr.add_lit]
    exact keep_new (HA.out j u hj)
  case c3 => exact vals_one _ _
  case c4 => rw [Nat.zero_add]; unfold maxLen; omega
  case c5 => rw [Nat.zero_add]; omega
  case c6 => simp
  intro v' w1 hown hgrow hnil
  have hb1 : Below w.heap.size w w1 := (bel_made w _ _).grown hgrow (by simp) (fun g hg => by simp [Value.ownBlock] at hg; omega)
  have ho : w1.ownsRow w.heap.size 21 1 v' l.length (vals .i32 l) := by
    rw [← HN.out]
    simpa using hown
  have HO := Lib.hid ho
  have HB := Lib.hid hb1
  have HNI := Lib.hid hnil
  clear hown hgrow hnil ho hb1
  go_wp2
  go_ret
  exact ⟨_, rfl, HO.out, fun h => by first | exact HNI.out h | simpa [h] using HNI.out, HB.out⟩

def IntP (l : List Int) (w : World) (e : Ending) (w' : World) : Prop :=
  ∃ v, e = .returned v ∧ w'.ownsRow w.heap.size 3 1 v l.length (vals .i64 l) ∧ Below w.heap.size w w'
set_option maxHeartbeats 1000000 in
theorem ints_any (B : Nat) (v : Value) (l : List Int) (w : World) (ho : w.ownsRow B 100 1 v l.length (vals .u16 l)) (h200 : l.length ≤ 200) (hb : ∀ x ∈ l, 0 ≤ x ∧ x ≤ 65535) :
    Calls Tryd.prog 16 #[v] w (IntP l w) := by
  obtain ⟨A, c, rfl, hA⟩ := nat_own ho
  obtain ⟨m, hm⟩ : ∃ m, m = l.length := ⟨_, rfl⟩
  rw [← hm] at h200 ⊢
  have HM := Lib.hid hm
  have HA := Lib.hid hA
  have HB := Lib.hid hb
  clear ho hm hA hb
  obtain ⟨i0, hi0, hz0, hz1, hz2⟩ := info_parts i64info
  go_enter Tryd.func16, Tryd.ntmps16
  go_wp2_with fail
  go_loopw [8, 3, 5] (fun ii out _ wr => ∃ k : Nat, ii = .int .i64 k ∧ k ≤ m ∧ wr.ownsRow w.heap.size 3 1 out k (vals .i64 (l.take k)) ∧ Below w.heap.size w wr) (fun ii _ _ _ => m - (intOf ii).toNat)
  case atStart => exact ⟨0, rfl, Nat.zero_le _, World.ownsRow_nil w _ _ _, Below.refl _ _⟩
  case round =>
    obtain ⟨k, rfl, hk, hown, hbel⟩ := hrel
    obtain ⟨W, hW⟩ : ∃ W, W = wr := ⟨_, rfl⟩
    subst hW
    by_cases hlt : k < m
    · have hlr : k < l.length := by rw [← HM.out]; exact hlt
      obtain ⟨ga, rfl, a0⟩ := (HA.out.below hbel) k hlr
      have hr0 : 0 ≤ l.getD k 0 ∧ l.getD k 0 ≤ 65535 := by
        rw [List.getD_eq_getElem?_getD, List.getElem?_eq_getElem hlr]
        exact HB.out _ (List.getElem_mem _)
      obtain ⟨r, hr⟩ : ∃ r, l.getD k 0 = r := ⟨_, rfl⟩
      rw [hr] at a0 hr0
      have wr1 : IntKind.i64.wrap r = r := IntWalk.i64_in _ (by omega)
      have HX := Lib.hid (And.intro hr (And.intro hbel hown))
      clear hbel hown hr
      go_wp2_with ((with_reducible refine Gate.append ?_); refine app_one rfl _ _ _ rfl _ i0 _ 8 Tryd.underlying28 hi0 hz0 hz1 hz2 rfl _ k _ rfl HX.out.2.2 HX.out.2.1 _ _ (by rfl) (by rfl) (by omega) (by decide) ?_; intro v5 W5 ho5 hb5; have HX5 := Lib.hid (And.intro ho5 hb5); clear ho5 hb5)
      go_roundw
      case rel =>
        refine ⟨k + 1, by go_num, hlt, ?_, HX5.out.2⟩
        rw [take_snoc l k hlr, HX.out.1, vals_app]
        exact HX5.out.1
      case measure => simp [intOf]; omega
    · obtain rfl : k = m := by omega
      have HX := Lib.hid (And.intro hbel hown)
      clear hbel hown
      go_wp2
      go_ret
      refine ⟨u3, rfl, ?_, HX.out.1⟩
      have h1 := HX.out.2
      rw [HM.out, List.take_length] at h1
      exact h1
def CmapP (rs : List Int) (f : Int → Int) (w : World) (e : Ending) (w' : World) : Prop :=
  ∃ v, e = .returned (.tuple #[v, .bool true]) ∧ w'.ownsRow w.heap.size 3 1 v rs.length (vals .i64 (rs.map f)) ∧ Below w.heap.size w w'
set_option maxHeartbeats 2000000 in
theorem cmap_any (g N c off len gr cr : Nat) (Q : Int → Prop) (f : Int → Int) (fm : Int) (P T rs : List Int) (w : World) (hT : Tab Q f fm T) (hA : At w g 0 (vals .u8 (P ++ T))) (hP : off = P.length) (hl : len = T.length) (hn : N = off + len) (ho : off ≤ 100) (hN : N ≤ 50000)
    (hf : ∀ r, Q r → 0 ≤ f r ∧ f r ≤ 65535)
    (hR : At w gr 0 (vals .i32 rs)) (hrs : ∀ r ∈ rs, Q r) (h200 : rs.length ≤ 200) :
    Calls Tryd.prog 7 #[.slice (some ⟨g, 0, none⟩) N c, .int .u32 (off : Int), .int .u32 (len : Int), .int .u16 fm, .slice (some ⟨gr, 0, none⟩) rs.length cr] w (CmapP rs f w) := by
  have hL : (P ++ T).length = N := by rw [List.length_append]; omega
  have hc1 := clone_any g 0 c (P ++ T) w hA (by omega)
  rw [hL] at hc1
  have HC1 := Lib.hid hc1
  have HH := Lib.hid (And.intro hT (And.intro hP (And.intro hL (And.intro hl (And.intro hn ho)))))
  have HR := Lib.hid (And.intro hR (And.intro hrs (And.intro hf h200)))
  clear hT hA hP hL hl hn ho hR hrs hf hc1
  obtain ⟨m, hm⟩ : ∃ m, m = rs.length := ⟨_, rfl⟩
  have HM := Lib.hid hm
  rw [← hm] at h200 ⊢
  clear hm
  go_enter Tryd.func7, Tryd.ntmps7
  go_wp2_with fail
  refine HC1.out.mono ?_
  rintro e W1 ⟨v1, rfl, h1, hn1, hb1⟩
  rw [HH.out.2.2.1] at h1
  obtain ⟨g1, c1, rfl, hA1, hc1, hg1, hgB1⟩ := own_open h1 hn1
  have hT1 : At W1 g1 off (vals .u8 T) := by
    rw [show P ++ T = P ++ T ++ [] by rw [List.append_nil]] at hA1
    have := at_mid hA1
    rwa [Nat.zero_add, ← HH.out.2.1] at this
  have hC2 := cloner_any gr 0 cr rs W1 (below_at HR.out.1 hb1) (by have := HR.out.2.2.2; omega)
  rw [← HM.out] at hC2
  have HC2 := Lib.hid hC2
  have HB1 := Lib.hid (And.intro hb1 (And.intro hT1 hc1))
  clear h1 hn1 hA1 hc1 hg1 hgB1 hb1 hT1 hC2
  go_wp2_with fail
  refine HC2.out.mono ?_
  rintro e W2 ⟨v2, rfl, h2, hn2, hb2⟩
  obtain ⟨g2, c2, rfl, hA2, _⟩ := own_open h2 hn2
  have hz := zz_any g1 N c1 off len 0 c2 (some ⟨g2, 0, none⟩) Q f fm T rs W2 HH.out.1 (below_at HB1.out.2.1 hb2) HH.out.2.2.2.1 HH.out.2.2.2.2.1 HB1.out.2.2 HH.out.2.2.2.2.2 (by omega) (fun i hi => ⟨g2, rfl, by have := hA2.get hi; rwa [Nat.zero_add] at this⟩) HR.out.2.1 HR.out.2.2.2
  rw [← HM.out] at hz
  have HZ := Lib.hid hz
  have HB2 := Lib.hid (HB1.out.1.trans (hb2.mono HB1.out.1.size))
  clear h2 hn2 hb2 hA2 hz
  rw [← HM.out]
  go_wp2_with fail
  refine HZ.out.mono ?_
  rintro e W3 ⟨v3, rfl, h3, hb3⟩
  have hi := fun k => ints_any W2.heap.size v3 (rs.map f) (W3.drewN k) (own_keep (by rw [List.length_map]; exact h3) (below_drawn (Below.refl _ _) k)) (by rw [List.length_map]; exact HR.out.2.2.2) (fun x hx => by
    obtain ⟨r, hr, rfl⟩ := List.mem_map.1 hx
    exact HR.out.2.2.1 r (HR.out.2.1 r hr))
  have HI := Lib.hid hi
  have HB3 := Lib.hid (HB2.out.trans (hb3.mono HB2.out.size))
  clear hi hb3 h3
  go_wp2_with fail
  go_region_law (first | (go_simp; go_at_call 16; refine (HI.out _).mono ?_; rintro e W4 ⟨v4, rfl, h4, hb4⟩; have HX4 := Lib.hid (And.intro h4 hb4); clear h4 hb4))
  all_goals
    go_wp2_with fail
    go_ret2
    have h1 := HX4.out.1
    rw [List.length_map] at h1
    first
      | exact ⟨v4, rfl, own_base' h1 HB3.out.size, (below_drawn HB3.out _).trans (HX4.out.2.mono HB3.out.size)⟩
      | exact ⟨v4, rfl, own_keep (own_base' h1 HB3.out.size) (below_drawn (Below.refl _ _) _), below_drawn ((below_drawn HB3.out _).trans (HX4.out.2.mono HB3.out.size)) _⟩
end Go.Proofs.YthcdolgmifkfdaaDoor.CmpU
