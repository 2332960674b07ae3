/- Contracts of the export that looks glyphs up in a class table, and of the thin package over it. -/
import Derived.Test.YtbpcmdgfgibbjaaDoorClsL
import Derived.Test.YtbpcmdgfgibbjaaDoorCovI
namespace Go.Proofs.YtbpcmdgfgibbjaaDoor.ClsZ
open Go.ChangeShapes Go.WideShapes Go.ChangeAt Go.RowKit
open Lst Mem SpecB SfntB View SearchB CovA CovB ClsR ClsB VarB ClsL
open CovZ (intinfo own_base Nums)
open CovI (Own glyphsTo_any cloneI_any own_behind)

/-- what a look-up tells -/
def Cls (a : Int) (w : World) (e : Ending) (w' : World) : Prop := e = .returned (.int .i64 a) ∧ Below w.heap.size w w'
/-- the look-up that a font's bytes give -/
def Look2 (fid : FuncId) (ans : Int → Int) (gs : List Int) (w : World) (e : Ending) (w' : World) : Prop :=
  ∃ a1 a2 v0, e = .returned (.tuple #[v0, .func (.func fid) #[] #[.pointer (some a1), .pointer (some a2)], .nilIface]) ∧ (∀ W, Below w'.heap.size w' W → ∀ x ∈ gs, Calls Tryd.prog fid #[.int .u16 x, .pointer (some a1), .pointer (some a2)] W (Cls (ans x) W)) ∧ Below w.heap.size w w'
def Look3 (fid : FuncId) (ans : Int → Int) (gs : List Int) (w : World) (e : Ending) (w' : World) : Prop :=
  ∃ a1 a2 a3 v0, e = .returned (.tuple #[v0, .func (.func fid) #[] #[.pointer (some a1), .pointer (some a2), .pointer (some a3)], .nilIface]) ∧ (∀ W, Below w'.heap.size w' W → ∀ x ∈ gs, Calls Tryd.prog fid #[.int .u16 x, .pointer (some a1), .pointer (some a2), .pointer (some a3)] W (Cls (ans x) W)) ∧ Below w.heap.size w w'

set_option maxHeartbeats 3200000 in
set_option maxRecDepth 3000 in
theorem zz2_any (fid : FuncId) (g n c m cm : Nat) (A : Option Addr) (gs : List Int) (ans : Int → Int) (w : World) (hm : m = gs.length) (hm2 : m ≤ 1000) (hs : 0 < m → ∃ b, A = some ⟨b, 0, none⟩ ∧ b < w.heap.size ∧ At w b 0 (vals .u16 gs))
    (eg : ∀ args w, (callFunc fid args).run Tryd.prog w = .ok (.enter fid args) w)
    (hl : ∀ w1 : World, Below w.heap.size w w1 → w.heap.size < w1.heap.size → w1.cell? ⟨w.heap.size, 0, none⟩ = some (.slice (some ⟨g, 0, none⟩) n c) → Calls Tryd.prog 17 #[.pointer (some ⟨w.heap.size, 0, none⟩), .slice none 0 0, .int .i64 0] w1 (Look2 fid ans gs w1)) (hans : ∀ x ∈ gs, -1 ≤ ans x ∧ ans x ≤ 65535) :
    Calls Tryd.prog 12 #[.slice (some ⟨g, 0, none⟩) n c, .slice A m cm] w (Nums (gs.map ans) w) := by
  obtain ⟨j0, hj0, jz0, jz1, jz2⟩ := info_parts intinfo
  have HM := Lib.hid hm
  have HS := Lib.hid hs
  have HL := Lib.hid hl
  have HA := Lib.hid hans
  clear hm hs hl hans
  go_enter Tryd.func12, Tryd.ntmps12
  go_wp2_with fail
  refine (HL.out _ (bel_made w _ _) (by simp) (by simp)).mono ?_
  rintro e w1 ⟨a1, a2, v0, rfl, hcall, hb⟩
  have HC := Lib.hid hcall
  have HB := Lib.hid ((bel_made w _ _).trans (hb.mono (by simp)))
  clear hcall hb
  go_wp2
  go_loopw [10, 28] (fun out i wr => ∃ k : Nat, k ≤ m ∧ i = .int .i64 k ∧ wr.ownsRow w1.heap.size 3 1 out k (vals .i64 ((gs.map ans).take k)) ∧ Below w1.heap.size w1 wr) (fun _ i _ => m - (intOf i).toNat)
  case atStart => exact ⟨0, Nat.zero_le _, rfl, World.ownsRow_nil _ _ _ _, Below.refl _ _⟩
  case round =>
    obtain ⟨k, hk, rfl, hown, hbel⟩ := hrel
    by_cases hlt : k < m
    · obtain ⟨b0, rfl, hb0, hA0⟩ := HS.out (by omega)
      have hlk : k < gs.length := by rw [← HM.out]; exact hlt
      obtain ⟨x, hx⟩ : ∃ x, x = gs.getD k 0 := ⟨_, rfl⟩
      have hxm : x ∈ gs := by
        rw [hx, List.getD_eq_getElem?_getD, List.getElem?_eq_getElem hlk]
        exact List.getElem_mem _
      have hcell : wr.cell? ⟨b0, k, none⟩ = some (.int .u16 x) := by
        have h1 := hA0.get hlk
        rw [Nat.zero_add, ← hx] at h1
        exact (hbel.cell (p := ⟨b0, k, none⟩) (Nat.lt_of_lt_of_le hb0 HB.out.size)).trans ((HB.out.cell (p := ⟨b0, k, none⟩) hb0).trans h1)
      have hax := HA.out x hxm
      have htk : (gs.map ans).take (k + 1) = (gs.map ans).take k ++ [ans x] := by rw [← List.map_take, take_snoc gs k hlk, ← hx, List.map_append, List.map_take]; rfl
      obtain ⟨a, ha⟩ : ∃ a, a = ans x := ⟨_, rfl⟩
      have hcx := HC.out wr hbel x hxm
      rw [← ha] at hax htk hcx
      have HT := Lib.hid htk
      have HO := Lib.hid hown
      have HBL := Lib.hid hbel
      have HCX := Lib.hid hcx
      clear htk hown hbel hcx ha hx hxm hA0 hlk
      go_wp2_with fail
      refine HCX.out.mono ?_
      rintro e w2 ⟨rfl, hb2⟩
      have hb3 := HBL.out.trans (hb2.mono HBL.out.size)
      have HO2 := Lib.hid (own_keep HO.out hb2)
      have HB3 := Lib.hid hb3
      clear hb2 hb3
      go_wp2_with (at_builtin; refine wpList_append_own _ rfl _ _ 23 rfl w1.heap.size 3 j0 (.int .i64 0) 1 8 Tryd.underlying23 hj0 jz0 jz1 jz2 rfl (by decide) _ _ _ rfl (HO2.out.alloc _) ⟨w2.heap.size, 0, none⟩ 1 1 [.int .i64 a] rfl rfl ?c1 ?c2 ?c3 ?c4 ?c5 ?_)
      case c1 =>
        intro j u hj
        match j, hj with
        | 0, hj => simp at hj; subst hj; simp [Addr.add]
      case c2 => intro u hu; simp at hu; subst hu; rfl
      case c3 => unfold maxLen; omega
      case c4 => omega
      case c5 => have := HB3.out.size; simp; omega
      intro p7 w7 hown7 hgrow7 hnil7
      have hb7 : Below w1.heap.size w1 w7 := (HB3.out.alloc HB3.out.size _).grown hgrow7 (by have := HB3.out.size; simp; omega) (fun g hg => own_ge HO2.out hg)
      have ho7 : w7.ownsRow w1.heap.size 3 1 p7 (k + 1) (vals .i64 ((gs.map ans).take (k + 1))) := by
        rw [HT.out, vals_app]
        exact hown7
      have HO7 := Lib.hid ho7
      have HB7 := Lib.hid hb7
      clear ho7 hb7 hown7 hgrow7 hnil7
      go_wp2
      go_roundw
      case rel => exact ⟨k + 1, by omega, by go_num, HO7.out, HB7.out⟩
      case measure => simp [intOf]; omega
    · have hkm : k = m := by omega
      subst hkm
      rw [List.take_of_length_le (by rw [List.length_map, ← HM.out]; exact Nat.le_refl _)] at hown
      have HO := Lib.hid hown
      have HB3 := Lib.hid (HB.out.trans (hbel.mono HB.out.size))
      have hl2 : (gs.map ans).length = k := by rw [List.length_map, ← HM.out]
      have HL2 := Lib.hid hl2
      clear hown hbel hl2
      go_wp2
      exact bodyPost_ret (v := .tuple #[_, .nilIface]) (by simp [results, Tryd.results12, go_sem]; rfl) rfl ⟨_, rfl, by rw [HL2.out]; exact own_base HO.out HB.out.size, HB3.out⟩

set_option maxHeartbeats 1600000 in
theorem impl2_any (fid : FuncId) (g n c m cm : Nat) (A : Option Addr) (bs gs : List Int) (ans : Int → Int) (w : World) (hbs : n = bs.length) (hn : n ≤ 100000) (hA : At w g 0 (vals .u8 bs)) (hm : m = gs.length) (hm2 : m ≤ 1000)
    (hs : 0 < m → ∃ b, A = some ⟨b, 0, none⟩ ∧ b < w.heap.size ∧ At w b 0 (vals .i64 gs)) (hgb : ∀ x ∈ gs, 0 ≤ x ∧ x ≤ 65535) (hans : ∀ x ∈ gs, -1 ≤ ans x ∧ ans x ≤ 65535) (eg : ∀ args w, (callFunc fid args).run Tryd.prog w = .ok (.enter fid args) w)
    (hl : ∀ (fb g c : Nat) (w1 : World), w1.cell? ⟨fb, 0, none⟩ = some (.slice (some ⟨g, 0, none⟩) n c) → n ≤ c → At w1 g 0 (vals .u8 bs) → g < w1.heap.size →
      Calls Tryd.prog 17 #[.pointer (some ⟨fb, 0, none⟩), .slice none 0 0, .int .i64 0] w1 (Look2 fid ans gs w1)) :
    Calls Tryd.prog 7 #[.slice (some ⟨g, 0, none⟩) n c, .slice A m cm] w
      fun e w' => (∃ v, e = .returned (.tuple #[v, .bool true]) ∧ w'.ownsRow w.heap.size 3 1 v m (vals .i64 (gs.map ans))) ∧ Below w.heap.size w w' := by
  have hcl := clone_any g 0 c bs w hA (by omega)
  rw [← hbs] at hcl
  have HC := Lib.hid hcl
  have HBS := Lib.hid hbs
  have HM := Lib.hid hm
  have HS := Lib.hid hs
  have HG := Lib.hid hgb
  have HAN := Lib.hid hans
  have HL := Lib.hid hl
  have HE := Lib.hid eg
  have hml : (gs.map ans).length = m := by rw [List.length_map, hm]
  have HML := Lib.hid hml
  clear hcl hbs hA hm hs hgb hans hl eg hml
  go_enter Tryd.func7, Tryd.ntmps7
  go_wp2_with fail
  refine HC.out.mono ?_
  intro e w1 hm1
  obtain ⟨g1, cap, rfl, hA1, hcap, hg1, hg2, hb1⟩ := made_open hm1
  rw [← HBS.out] at hcap ⊢
  have HA1 := Lib.hid hA1
  have HB1 := Lib.hid hb1
  have hgt := glyphsTo_any m cm A gs w1 HM.out hm2 (fun h => by obtain ⟨b, h1, h2, h3⟩ := HS.out h; exact ⟨b, h1, Nat.lt_of_lt_of_le h2 hb1.size, h3.below hb1 h2⟩) HG.out
  have HGT := Lib.hid hgt
  clear hA1 hm1 hb1 hgt
  go_wp2_with fail
  refine HGT.out.mono ?_
  rintro e w2 ⟨v2, rfl, ho2, hb2⟩
  rw [← HM.out] at ho2
  have HB2 := Lib.hid (HB1.out.trans (hb2.mono HB1.out.size))
  have HA2 := Lib.hid (HA1.out.keep hb2)
  have hg2' : g1 < w2.heap.size := Nat.lt_of_lt_of_le hg1 hb2.size
  obtain ⟨A2, cm2, hv2, hs2⟩ : ∃ A2 cm2, v2 = .slice A2 m cm2 ∧ (0 < m → ∃ b, A2 = some ⟨b, 0, none⟩ ∧ b < w2.heap.size ∧ At w2 b 0 (vals .u16 gs)) := by
    by_cases hnil : v2 = .slice none 0 0
    · have hm0 : m = 0 := by
        rw [hnil] at ho2
        rcases ho2.2 with ⟨_, h⟩ | ⟨g, cap, cur, h, _⟩
        · exact h
        · cases h
      exact ⟨none, 0, by rw [hnil, hm0], fun h => absurd h (by omega)⟩
    · obtain ⟨g, cap, h1, h2, _, h4, _⟩ := own_open ho2 hnil
      exact ⟨_, cap, h1, fun _ => ⟨g, rfl, h4, h2⟩⟩
  rw [hv2]
  have HZ := Lib.hid (zz2_any fid g1 n cap m cm2 A2 gs ans w2 HM.out hm2 hs2 HE.out (fun w3 hb hsz hc => HL.out _ g1 cap w3 hc hcap (HA2.out.keep hb) (Nat.lt_of_lt_of_le hg2' hb.size)) HAN.out)
  clear ho2 hb2 hv2 hs2
  go_wp2_with fail
  refine HZ.out.mono ?_
  rintro e w3 ⟨v3, rfl, ho3, hb3⟩
  have HB3 := Lib.hid (HB2.out.trans (hb3.mono HB2.out.size))
  clear hb3
  go_wp2_with fail
  go_region_held3 (fun w' => w'.ownsRow w2.heap.size 3 1 v3 (gs.map ans).length (vals .i64 (gs.map ans))) (first | exact ho3 | (with_reducible refine own_behind (by assumption) (by assumption)))
    (first | (go_at_call 15; (with_reducible refine (cloneI_any v3 w2.heap.size (gs.map ans) _ (by assumption) ?_).mono ?_); (focus (rw [HML.out]; omega)); rintro e w4 ⟨v4, rfl, ho4, hb4⟩))
  rw [HML.out] at ho4
  have hsz3 : w.heap.size ≤ w3.drew.heap.size := HB3.out.size
  have HO := Lib.hid (own_base ho4 hsz3)
  have HBF := Lib.hid ((Below.drew HB3.out).trans (hb4.mono hsz3))
  clear ho4 hb4 ho3 hsz3
  go_wp2
  exact bodyPost_ret (v := .tuple #[v4, .bool true]) (by simp [results, Tryd.results7, go_sem]) rfl ⟨⟨v4, rfl, HO.out⟩, HBF.out⟩

set_option maxHeartbeats 3200000 in
set_option maxRecDepth 3000 in
theorem zz3_any (fid : FuncId) (g n c m cm : Nat) (A : Option Addr) (gs : List Int) (ans : Int → Int) (w : World) (hm : m = gs.length) (hm2 : m ≤ 1000) (hs : 0 < m → ∃ b, A = some ⟨b, 0, none⟩ ∧ b < w.heap.size ∧ At w b 0 (vals .u16 gs))
    (eg : ∀ args w, (callFunc fid args).run Tryd.prog w = .ok (.enter fid args) w)
    (hl : ∀ w1 : World, Below w.heap.size w w1 → w.heap.size < w1.heap.size → w1.cell? ⟨w.heap.size, 0, none⟩ = some (.slice (some ⟨g, 0, none⟩) n c) → Calls Tryd.prog 17 #[.pointer (some ⟨w.heap.size, 0, none⟩), .slice none 0 0, .int .i64 0] w1 (Look3 fid ans gs w1)) (hans : ∀ x ∈ gs, -1 ≤ ans x ∧ ans x ≤ 65535) :
    Calls Tryd.prog 12 #[.slice (some ⟨g, 0, none⟩) n c, .slice A m cm] w (Nums (gs.map ans) w) := by
  obtain ⟨j0, hj0, jz0, jz1, jz2⟩ := info_parts intinfo
  have HM := Lib.hid hm
  have HS := Lib.hid hs
  have HL := Lib.hid hl
  have HA := Lib.hid hans
  clear hm hs hl hans
  go_enter Tryd.func12, Tryd.ntmps12
  go_wp2_with fail
  refine (HL.out _ (bel_made w _ _) (by simp) (by simp)).mono ?_
  rintro e w1 ⟨a1, a2, a3, v0, rfl, hcall, hb⟩
  have HC := Lib.hid hcall
  have HB := Lib.hid ((bel_made w _ _).trans (hb.mono (by simp)))
  clear hcall hb
  go_wp2
  go_loopw [10, 28] (fun out i wr => ∃ k : Nat, k ≤ m ∧ i = .int .i64 k ∧ wr.ownsRow w1.heap.size 3 1 out k (vals .i64 ((gs.map ans).take k)) ∧ Below w1.heap.size w1 wr) (fun _ i _ => m - (intOf i).toNat)
  case atStart => exact ⟨0, Nat.zero_le _, rfl, World.ownsRow_nil _ _ _ _, Below.refl _ _⟩
  case round =>
    obtain ⟨k, hk, rfl, hown, hbel⟩ := hrel
    by_cases hlt : k < m
    · obtain ⟨b0, rfl, hb0, hA0⟩ := HS.out (by omega)
      have hlk : k < gs.length := by rw [← HM.out]; exact hlt
      obtain ⟨x, hx⟩ : ∃ x, x = gs.getD k 0 := ⟨_, rfl⟩
      have hxm : x ∈ gs := by
        rw [hx, List.getD_eq_getElem?_getD, List.getElem?_eq_getElem hlk]
        exact List.getElem_mem _
      have hcell : wr.cell? ⟨b0, k, none⟩ = some (.int .u16 x) := by
        have h1 := hA0.get hlk
        rw [Nat.zero_add, ← hx] at h1
        exact (hbel.cell (p := ⟨b0, k, none⟩) (Nat.lt_of_lt_of_le hb0 HB.out.size)).trans ((HB.out.cell (p := ⟨b0, k, none⟩) hb0).trans h1)
      have hax := HA.out x hxm
      have htk : (gs.map ans).take (k + 1) = (gs.map ans).take k ++ [ans x] := by rw [← List.map_take, take_snoc gs k hlk, ← hx, List.map_append, List.map_take]; rfl
      obtain ⟨a, ha⟩ : ∃ a, a = ans x := ⟨_, rfl⟩
      have hcx := HC.out wr hbel x hxm
      rw [← ha] at hax htk hcx
      have HT := Lib.hid htk
      have HO := Lib.hid hown
      have HBL := Lib.hid hbel
      have HCX := Lib.hid hcx
      clear htk hown hbel hcx ha hx hxm hA0 hlk
      go_wp2_with fail
      refine HCX.out.mono ?_
      rintro e w2 ⟨rfl, hb2⟩
      have hb3 := HBL.out.trans (hb2.mono HBL.out.size)
      have HO2 := Lib.hid (own_keep HO.out hb2)
      have HB3 := Lib.hid hb3
      clear hb2 hb3
      go_wp2_with (at_builtin; refine wpList_append_own _ rfl _ _ 23 rfl w1.heap.size 3 j0 (.int .i64 0) 1 8 Tryd.underlying23 hj0 jz0 jz1 jz2 rfl (by decide) _ _ _ rfl (HO2.out.alloc _) ⟨w2.heap.size, 0, none⟩ 1 1 [.int .i64 a] rfl rfl ?c1 ?c2 ?c3 ?c4 ?c5 ?_)
      case c1 =>
        intro j u hj
        match j, hj with
        | 0, hj => simp at hj; subst hj; simp [Addr.add]
      case c2 => intro u hu; simp at hu; subst hu; rfl
      case c3 => unfold maxLen; omega
      case c4 => omega
      case c5 => have := HB3.out.size; simp; omega
      intro p7 w7 hown7 hgrow7 hnil7
      have hb7 : Below w1.heap.size w1 w7 := (HB3.out.alloc HB3.out.size _).grown hgrow7 (by have := HB3.out.size; simp; omega) (fun g hg => own_ge HO2.out hg)
      have ho7 : w7.ownsRow w1.heap.size 3 1 p7 (k + 1) (vals .i64 ((gs.map ans).take (k + 1))) := by
        rw [HT.out, vals_app]
        exact hown7
      have HO7 := Lib.hid ho7
      have HB7 := Lib.hid hb7
      clear ho7 hb7 hown7 hgrow7 hnil7
      go_wp2
      go_roundw
      case rel => exact ⟨k + 1, by omega, by go_num, HO7.out, HB7.out⟩
      case measure => simp [intOf]; omega
    · have hkm : k = m := by omega
      subst hkm
      rw [List.take_of_length_le (by rw [List.length_map, ← HM.out]; exact Nat.le_refl _)] at hown
      have HO := Lib.hid hown
      have HB3 := Lib.hid (HB.out.trans (hbel.mono HB.out.size))
      have hl2 : (gs.map ans).length = k := by rw [List.length_map, ← HM.out]
      have HL2 := Lib.hid hl2
      clear hown hbel hl2
      go_wp2
      exact bodyPost_ret (v := .tuple #[_, .nilIface]) (by simp [results, Tryd.results12, go_sem]; rfl) rfl ⟨_, rfl, by rw [HL2.out]; exact own_base HO.out HB.out.size, HB3.out⟩

set_option maxHeartbeats 1600000 in
theorem impl3_any (fid : FuncId) (g n c m cm : Nat) (A : Option Addr) (bs gs : List Int) (ans : Int → Int) (w : World) (hbs : n = bs.length) (hn : n ≤ 100000) (hA : At w g 0 (vals .u8 bs)) (hm : m = gs.length) (hm2 : m ≤ 1000)
    (hs : 0 < m → ∃ b, A = some ⟨b, 0, none⟩ ∧ b < w.heap.size ∧ At w b 0 (vals .i64 gs)) (hgb : ∀ x ∈ gs, 0 ≤ x ∧ x ≤ 65535) (hans : ∀ x ∈ gs, -1 ≤ ans x ∧ ans x ≤ 65535) (eg : ∀ args w, (callFunc fid args).run Tryd.prog w = .ok (.enter fid args) w)
    (hl : ∀ (fb g c : Nat) (w1 : World), w1.cell? ⟨fb, 0, none⟩ = some (.slice (some ⟨g, 0, none⟩) n c) → n ≤ c → At w1 g 0 (vals .u8 bs) → g < w1.heap.size →
      Calls Tryd.prog 17 #[.pointer (some ⟨fb, 0, none⟩), .slice none 0 0, .int .i64 0] w1 (Look3 fid ans gs w1)) :
    Calls Tryd.prog 7 #[.slice (some ⟨g, 0, none⟩) n c, .slice A m cm] w
      fun e w' => (∃ v, e = .returned (.tuple #[v, .bool true]) ∧ w'.ownsRow w.heap.size 3 1 v m (vals .i64 (gs.map ans))) ∧ Below w.heap.size w w' := by
  have hcl := clone_any g 0 c bs w hA (by omega)
  rw [← hbs] at hcl
  have HC := Lib.hid hcl
  have HBS := Lib.hid hbs
  have HM := Lib.hid hm
  have HS := Lib.hid hs
  have HG := Lib.hid hgb
  have HAN := Lib.hid hans
  have HL := Lib.hid hl
  have HE := Lib.hid eg
  have hml : (gs.map ans).length = m := by rw [List.length_map, hm]
  have HML := Lib.hid hml
  clear hcl hbs hA hm hs hgb hans hl eg hml
  go_enter Tryd.func7, Tryd.ntmps7
  go_wp2_with fail
  refine HC.out.mono ?_
  intro e w1 hm1
  obtain ⟨g1, cap, rfl, hA1, hcap, hg1, hg2, hb1⟩ := made_open hm1
  rw [← HBS.out] at hcap ⊢
  have HA1 := Lib.hid hA1
  have HB1 := Lib.hid hb1
  have hgt := glyphsTo_any m cm A gs w1 HM.out hm2 (fun h => by obtain ⟨b, h1, h2, h3⟩ := HS.out h; exact ⟨b, h1, Nat.lt_of_lt_of_le h2 hb1.size, h3.below hb1 h2⟩) HG.out
  have HGT := Lib.hid hgt
  clear hA1 hm1 hb1 hgt
  go_wp2_with fail
  refine HGT.out.mono ?_
  rintro e w2 ⟨v2, rfl, ho2, hb2⟩
  rw [← HM.out] at ho2
  have HB2 := Lib.hid (HB1.out.trans (hb2.mono HB1.out.size))
  have HA2 := Lib.hid (HA1.out.keep hb2)
  have hg2' : g1 < w2.heap.size := Nat.lt_of_lt_of_le hg1 hb2.size
  obtain ⟨A2, cm2, hv2, hs2⟩ : ∃ A2 cm2, v2 = .slice A2 m cm2 ∧ (0 < m → ∃ b, A2 = some ⟨b, 0, none⟩ ∧ b < w2.heap.size ∧ At w2 b 0 (vals .u16 gs)) := by
    by_cases hnil : v2 = .slice none 0 0
    · have hm0 : m = 0 := by
        rw [hnil] at ho2
        rcases ho2.2 with ⟨_, h⟩ | ⟨g, cap, cur, h, _⟩
        · exact h
        · cases h
      exact ⟨none, 0, by rw [hnil, hm0], fun h => absurd h (by omega)⟩
    · obtain ⟨g, cap, h1, h2, _, h4, _⟩ := own_open ho2 hnil
      exact ⟨_, cap, h1, fun _ => ⟨g, rfl, h4, h2⟩⟩
  rw [hv2]
  have HZ := Lib.hid (zz3_any fid g1 n cap m cm2 A2 gs ans w2 HM.out hm2 hs2 HE.out (fun w3 hb hsz hc => HL.out _ g1 cap w3 hc hcap (HA2.out.keep hb) (Nat.lt_of_lt_of_le hg2' hb.size)) HAN.out)
  clear ho2 hb2 hv2 hs2
  go_wp2_with fail
  refine HZ.out.mono ?_
  rintro e w3 ⟨v3, rfl, ho3, hb3⟩
  have HB3 := Lib.hid (HB2.out.trans (hb3.mono HB2.out.size))
  clear hb3
  go_wp2_with fail
  go_region_held3 (fun w' => w'.ownsRow w2.heap.size 3 1 v3 (gs.map ans).length (vals .i64 (gs.map ans))) (first | exact ho3 | (with_reducible refine own_behind (by assumption) (by assumption)))
    (first | (go_at_call 15; (with_reducible refine (cloneI_any v3 w2.heap.size (gs.map ans) _ (by assumption) ?_).mono ?_); (focus (rw [HML.out]; omega)); rintro e w4 ⟨v4, rfl, ho4, hb4⟩))
  rw [HML.out] at ho4
  have hsz3 : w.heap.size ≤ w3.drew.heap.size := HB3.out.size
  have HO := Lib.hid (own_base ho4 hsz3)
  have HBF := Lib.hid ((Below.drew HB3.out).trans (hb4.mono hsz3))
  clear ho4 hb4 ho3 hsz3
  go_wp2
  exact bodyPost_ret (v := .tuple #[v4, .bool true]) (by simp [results, Tryd.results7, go_sem]) rfl ⟨⟨v4, rfl, HO.out⟩, HBF.out⟩
end Go.Proofs.YtbpcmdgfgibbjaaDoor.ClsZ
