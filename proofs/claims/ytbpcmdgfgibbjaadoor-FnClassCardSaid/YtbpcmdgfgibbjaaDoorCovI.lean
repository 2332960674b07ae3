/- Contracts of the thin package's look-ups in a coverage table. -/
import Derived.Test.YtbpcmdgfgibbjaaDoorCovZ
namespace Go.Proofs.YtbpcmdgfgibbjaaDoor.CovI
open Go.ChangeShapes Go.WideShapes Go.ChangeAt Go.RowKit
open Lst Mem SpecB SfntB View SearchB CovA CovB CovR VarB CovL CovZ

theorem gidinfo : (Tryd.prog.info? 73).map (fun i => (i.zero, i.size, i.bytes)) = some (some (.int .u16 0), 1, 2) := by kernel_rfl
/-- a row of the call's own, perhaps nil -/
def Own (E : TypeId) (k : IntKind) (l : List Int) (w : World) (e : Ending) (w' : World) : Prop := ∃ v, e = .returned v ∧ w'.ownsRow w.heap.size E 1 v l.length (vals k l) ∧ Below w.heap.size w w'

set_option maxHeartbeats 1600000 in
theorem glyphsTo_any (m cm : Nat) (A : Option Addr) (gs : List Int) (w : World) (hm : m = gs.length) (hm2 : m ≤ 1000) (hs : 0 < m → ∃ b, A = some ⟨b, 0, none⟩ ∧ b < w.heap.size ∧ At w b 0 (vals .i64 gs)) (hb : ∀ x ∈ gs, 0 ≤ x ∧ x ≤ 65535) :
    Calls Tryd.prog 14 #[.slice A m cm] w (Own 73 .u16 gs w) := by
  obtain ⟨j0, hj0, jz0, jz1, jz2⟩ := info_parts gidinfo
  have HM := Lib.hid hm
  have HS := Lib.hid hs
  have HBD := Lib.hid hb
  clear hm hs hb
  go_enter Tryd.func14, Tryd.ntmps14
  go_wp2
  go_loopw [3, 8] (fun out i wr => ∃ k : Nat, k ≤ m ∧ i = .int .i64 k ∧ wr.ownsRow w.heap.size 73 1 out k (vals .u16 (gs.take k)) ∧ Below w.heap.size w wr) (fun _ i _ => m - (intOf i).toNat)
  case atStart => exact ⟨0, Nat.zero_le _, rfl, World.ownsRow_nil _ _ _ _, Below.refl _ _⟩
  case round =>
    obtain ⟨k, hk, rfl, hown, hbel⟩ := hrel
    by_cases hlt : k < m
    · obtain ⟨b0, rfl, hb0, hA0⟩ := HS.out (by omega)
      have hlk : k < gs.length := by rw [← HM.out]; exact hlt
      obtain ⟨x, hx⟩ : ∃ x, x = gs.getD k 0 := ⟨_, rfl⟩
      have hxb : 0 ≤ x ∧ x ≤ 65535 := by
        rw [hx, List.getD_eq_getElem?_getD, List.getElem?_eq_getElem hlk]
        exact HBD.out _ (List.getElem_mem _)
      have hcell : wr.cell? ⟨b0, k, none⟩ = some (.int .i64 x) := by
        have h1 := hA0.get hlk
        rw [Nat.zero_add, ← hx] at h1
        exact (hbel.cell (p := ⟨b0, k, none⟩) hb0).trans h1
      have htk := take_snoc gs k hlk
      rw [← hx] at htk
      have w1 : IntKind.u16.wrap x = x := IntWalk.u16_in _ (by omega)
      have HT := Lib.hid htk
      have HO := Lib.hid hown
      have HBL := Lib.hid hbel
      clear htk hown hbel hx hA0 hlk
      go_wp2_with (at_builtin; refine wpList_append_own _ rfl _ _ 40 rfl w.heap.size 73 j0 (.int .u16 0) 1 2 Tryd.underlying40 hj0 jz0 jz1 jz2 rfl (by decide) _ _ _ rfl (HO.out.alloc _) ⟨wr.heap.size, 0, none⟩ 1 1 [.int .u16 x] rfl rfl ?c1 ?c2 ?c3 ?c4 ?c5 ?_)
      case c1 =>
        intro j u hj
        match j, hj with
        | 0, hj => simp at hj; subst hj; simp [Addr.add]
      case c2 => intro u hu; simp at hu; subst hu; rfl
      case c3 => unfold maxLen; omega
      case c4 => omega
      case c5 => have := HBL.out.size; simp; omega
      intro p7 w7 hown7 hgrow7 hnil7
      have hb7 : Below w.heap.size w w7 := (HBL.out.alloc HBL.out.size _).grown hgrow7 (by have := HBL.out.size; simp; omega) (fun g hg => own_ge HO.out hg)
      have ho7 : w7.ownsRow w.heap.size 73 1 p7 (k + 1) (vals .u16 (gs.take (k + 1))) := by
        rw [HT.out, vals_app]
        exact hown7
      have HO7 := Lib.hid ho7
      have HB7 := Lib.hid hb7
      clear ho7 hb7 hown7 hgrow7 hnil7
      go_wp2
      go_roundw
      case rel => exact ⟨k + 1, by omega, by go_num, HO7.out, HB7.out⟩
      case measure => simp [intOf]; omega
    · have hkm : k = m := by omega
      subst hkm
      rw [List.take_of_length_le (by rw [← HM.out]; exact Nat.le_refl _)] at hown
      have HO := Lib.hid hown
      have HB := Lib.hid hbel
      clear hown hbel
      go_wp2
      go_ret
      exact ⟨_, rfl, by rw [← HM.out]; exact HO.out, HB.out⟩

set_option maxHeartbeats 1000000 in
/-- slices.Clone of a slice of ints of the call's own, perhaps nil -/
theorem cloneI_any (v : Value) (B : Nat) (l : List Int) (w : World) (ho : w.ownsRow B 3 1 v l.length (vals .i64 l)) (hsz : l.length ≤ 1000000) :
    Calls Tryd.prog 15 #[v] w (Own 3 .i64 l w) := by
  obtain ⟨i0, hi0, hz0, hz1, hz2⟩ := info_parts intinfo
  obtain ⟨n, hn⟩ : ∃ n, n = l.length := ⟨_, rfl⟩
  rw [← hn] at hsz ho
  have HN := Lib.hid hn
  clear hn
  have q := fun (w : World) (a : Option Addr) (n c n' c' : Nat) => Lib.run_eql_slice_nil (P := Tryd.prog) w 23 3 a n c n' c' Tryd.underlying23
  by_cases hv : v = .slice none 0 0
  · subst hv
    have hn0 : n = 0 := by
      rcases ho.2 with ⟨_, h⟩ | ⟨g, cap, cur, h, _⟩
      · exact h
      · cases h
    subst hn0
    have hl0 : l = [] := List.eq_nil_of_length_eq_zero HN.out.symm
    subst hl0
    clear ho
    go_enter Tryd.func15, Tryd.ntmps15
    go_wp2
    go_ret
    exact ⟨_, rfl, World.ownsRow_nil _ _ _ _, Below.refl _ _⟩
  · obtain ⟨g, cap, rfl, hA, hcap, hg, hg'⟩ := own_open ho hv
    have HA := Lib.hid hA
    clear ho hv hA hg'
    go_enter Tryd.func15, Tryd.ntmps15
    go_wp2_with (at_builtin; refine wpList_append_own _ rfl _ _ 23 rfl w.heap.size 3 i0 (.int .i64 0) 1 8 Tryd.underlying23 hi0 hz0 hz1 hz2 rfl (by decide) _ _ _ rfl (made_row w _) ⟨g, 0, none⟩ n cap (vals .i64 l) rfl ?c1 ?c2 ?c3 ?c4 ?c5 ?c6 ?_)
    case c1 => rw [vals_len, ← HN.out]; omega
    case c2 =>
      intro j u hj
      rw [Addr.add_lit]
      exact keep_new (HA.out j u hj)
    case c3 => exact vals_one _ _
    case c4 => rw [Nat.zero_add]; unfold maxLen; omega
    case c5 => rw [Nat.zero_add]; omega
    case c6 => simp
    intro v' w1 hown hgrow hnil
    have hb1 : Below w.heap.size w w1 := (bel_made w _ _).grown hgrow (by simp) (fun g hg => by simp [Value.ownBlock] at hg; omega)
    have ho : w1.ownsRow w.heap.size 3 1 v' l.length (vals .i64 l) := by
      rw [← HN.out]
      simpa using hown
    have HO := Lib.hid ho
    have HB := Lib.hid hb1
    clear hown hgrow hnil ho hb1
    go_wp2
    go_ret
    exact ⟨_, rfl, HO.out, HB.out⟩

theorem own_behind {w w' : World} {B e size n : Nat} {v : Value} {xs : List Value} (hb : Below w.heap.size w w') (h : w.ownsRow B e size v n xs) : w'.ownsRow B e size v n xs := own_keep h hb

set_option maxHeartbeats 1600000 in
theorem impl_any (fid : FuncId) (g n c m cm : Nat) (A : Option Addr) (bs gs : List Int) (ans : Int → Int) (w : World) (hbs : n = bs.length) (hn : n ≤ 100000) (hA : At w g 0 (vals .u8 bs)) (hm : m = gs.length) (hm2 : m ≤ 1000)
    (hs : 0 < m → ∃ b, A = some ⟨b, 0, none⟩ ∧ b < w.heap.size ∧ At w b 0 (vals .i64 gs)) (hgb : ∀ x ∈ gs, 0 ≤ x ∧ x ≤ 65535) (hans : ∀ x ∈ gs, -1 ≤ ans x ∧ ans x ≤ 65535) (eg : ∀ args w, (callFunc fid args).run Tryd.prog w = .ok (.enter fid args) w)
    (hl : ∀ (fb g c : Nat) (w1 : World), w1.cell? ⟨fb, 0, none⟩ = some (.slice (some ⟨g, 0, none⟩) n c) → n ≤ c → At w1 g 0 (vals .u8 bs) → g < w1.heap.size →
      Calls Tryd.prog 18 #[.pointer (some ⟨fb, 0, none⟩), .slice none 0 0, .int .i64 0] w1 (Look fid ans gs w1)) :
    Calls Tryd.prog 9 #[.slice (some ⟨g, 0, none⟩) n c, .slice A m cm] w
      fun e w' => (∃ v, e = .returned (.tuple #[v, .bool true]) ∧ w'.ownsRow w.heap.size 3 1 v m (vals .i64 (gs.map ans))) ∧ Below w.heap.size w w' := by
  have hcl := clone_any g 0 c bs w hA (by omega)
  rw [← hbs] at hcl
  have HC := Lib.hid hcl
  have HBS := Lib.hid hbs
  have HM := Lib.hid hm
  have HS := Lib.hid hs
  have HG := Lib.hid hgb
  have HAN := Lib.hid hans
  have HL := Lib.hid hl
  have HE := Lib.hid eg
  have hml : (gs.map ans).length = m := by rw [List.length_map, hm]
  have HML := Lib.hid hml
  clear hcl hbs hA hm hs hgb hans hl eg hml
  go_enter Tryd.func9, Tryd.ntmps9
  go_wp2_with fail
  refine HC.out.mono ?_
  intro e w1 hm1
  obtain ⟨g1, cap, rfl, hA1, hcap, hg1, hg2, hb1⟩ := made_open hm1
  rw [← HBS.out] at hcap ⊢
  have HA1 := Lib.hid hA1
  have HB1 := Lib.hid hb1
  have hgt := glyphsTo_any m cm A gs w1 HM.out hm2 (fun h => by obtain ⟨b, h1, h2, h3⟩ := HS.out h; exact ⟨b, h1, Nat.lt_of_lt_of_le h2 hb1.size, h3.below hb1 h2⟩) HG.out
  have HGT := Lib.hid hgt
  clear hA1 hm1 hb1 hgt
  go_wp2_with fail
  refine HGT.out.mono ?_
  rintro e w2 ⟨v2, rfl, ho2, hb2⟩
  rw [← HM.out] at ho2
  have HB2 := Lib.hid (HB1.out.trans (hb2.mono HB1.out.size))
  have HA2 := Lib.hid (HA1.out.keep hb2)
  have hg2' : g1 < w2.heap.size := Nat.lt_of_lt_of_le hg1 hb2.size
  obtain ⟨A2, cm2, hv2, hs2⟩ : ∃ A2 cm2, v2 = .slice A2 m cm2 ∧ (0 < m → ∃ b, A2 = some ⟨b, 0, none⟩ ∧ b < w2.heap.size ∧ At w2 b 0 (vals .u16 gs)) := by
    by_cases hnil : v2 = .slice none 0 0
    · have hm0 : m = 0 := by
        rw [hnil] at ho2
        rcases ho2.2 with ⟨_, h⟩ | ⟨g, cap, cur, h, _⟩
        · exact h
        · cases h
      exact ⟨none, 0, by rw [hnil, hm0], fun h => absurd h (by omega)⟩
    · obtain ⟨g, cap, h1, h2, _, h4, _⟩ := own_open ho2 hnil
      exact ⟨_, cap, h1, fun _ => ⟨g, rfl, h4, h2⟩⟩
  rw [hv2]
  have HZ := Lib.hid (zz_any fid g1 n cap m cm2 A2 gs ans w2 HM.out hm2 hs2 HE.out (fun w3 hb hsz hc => HL.out _ g1 cap w3 hc hcap (HA2.out.keep hb) (Nat.lt_of_lt_of_le hg2' hb.size)) HAN.out)
  clear ho2 hb2 hv2 hs2
  go_wp2_with fail
  refine HZ.out.mono ?_
  rintro e w3 ⟨v3, rfl, ho3, hb3⟩
  have HB3 := Lib.hid (HB2.out.trans (hb3.mono HB2.out.size))
  clear hb3
  go_wp2_with fail
  go_region_held3 (fun w' => w'.ownsRow w2.heap.size 3 1 v3 (gs.map ans).length (vals .i64 (gs.map ans))) (first | exact ho3 | (with_reducible refine own_behind (by assumption) (by assumption)))
    (first | (go_at_call 15; (with_reducible refine (cloneI_any v3 w2.heap.size (gs.map ans) _ (by assumption) ?_).mono ?_); (focus (rw [HML.out]; omega)); rintro e w4 ⟨v4, rfl, ho4, hb4⟩))
  rw [HML.out] at ho4
  have hsz3 : w.heap.size ≤ w3.drew.heap.size := HB3.out.size
  have HO := Lib.hid (own_base ho4 hsz3)
  have HBF := Lib.hid ((Below.drew HB3.out).trans (hb4.mono hsz3))
  clear ho4 hb4 ho3 hsz3
  go_wp2
  exact bodyPost_ret (v := .tuple #[v4, .bool true]) (by simp [results, Tryd.results9, go_sem]) rfl ⟨⟨v4, rfl, HO.out⟩, HBF.out⟩
end Go.Proofs.YtbpcmdgfgibbjaaDoor.CovI
