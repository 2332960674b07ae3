/- Contracts of the export that looks glyphs up in a coverage table, and of the thin package over it. -/
import Derived.Test.YtbpcmdgfgibbjaaDoorCovL
namespace Go.Proofs.YtbpcmdgfgibbjaaDoor.CovZ
open Go.ChangeShapes Go.WideShapes Go.ChangeAt Go.RowKit
open Lst Mem SpecB SfntB View SearchB CovA CovB CovR VarB CovL

/-- what a look-up tells, -1 for none -/
def Ans (a : Int) (w : World) (e : Ending) (w' : World) : Prop :=
  ((∃ r, e = .returned (.tuple #[.int .i64 r, .bool true]) ∧ r = a) ∨ (∃ r, e = .returned (.tuple #[.int .i64 r, .bool false]) ∧ a = -1)) ∧ Below w.heap.size w w'
theorem intinfo : (Tryd.prog.info? 3).map (fun i => (i.zero, i.size, i.bytes)) = some (some (.int .i64 0), 1, 8) := by kernel_rfl

theorem own_base {w : World} {B B' : Nat} {e : TypeId} {size n : Nat} {v : Value} {xs : List Value} (h : w.ownsRow B e size v n xs) (hB : B' ≤ B) : w.ownsRow B' e size v n xs :=
  ⟨h.1, h.2.imp id (fun ⟨g, cap, cur, h1, hb, rest⟩ => ⟨g, cap, cur, h1, by omega, rest⟩)⟩
/-- the look-up that a font's bytes give -/
def Look (fid : FuncId) (ans : Int → Int) (gs : List Int) (w : World) (e : Ending) (w' : World) : Prop :=
  ∃ a1 a2 v0, e = .returned (.tuple #[v0, .func (.func fid) #[] #[.pointer (some a1), .pointer (some a2)], .nilIface]) ∧ (∀ W, Below w'.heap.size w' W → ∀ x ∈ gs, Calls Tryd.prog fid #[.int .u16 x, .pointer (some a1), .pointer (some a2)] W (Ans (ans x) W)) ∧ Below w.heap.size w w'

/-- a slice of numbers of the call's own, perhaps nil -/
def Nums (l : List Int) (w : World) (e : Ending) (w' : World) : Prop := ∃ v, e = .returned (.tuple #[v, .nilIface]) ∧ w'.ownsRow w.heap.size 3 1 v l.length (vals .i64 l) ∧ Below w.heap.size w w'

set_option maxHeartbeats 3200000 in
set_option maxRecDepth 3000 in
theorem zz_any (fid : FuncId) (g n c m cm : Nat) (A : Option Addr) (gs : List Int) (ans : Int → Int) (w : World) (hm : m = gs.length) (hm2 : m ≤ 1000) (hs : 0 < m → ∃ b, A = some ⟨b, 0, none⟩ ∧ b < w.heap.size ∧ At w b 0 (vals .u16 gs))
    (eg : ∀ args w, (callFunc fid args).run Tryd.prog w = .ok (.enter fid args) w)
    (hl : ∀ w1 : World, Below w.heap.size w w1 → w.heap.size < w1.heap.size → w1.cell? ⟨w.heap.size, 0, none⟩ = some (.slice (some ⟨g, 0, none⟩) n c) → Calls Tryd.prog 18 #[.pointer (some ⟨w.heap.size, 0, none⟩), .slice none 0 0, .int .i64 0] w1 (Look fid ans gs w1)) (hans : ∀ x ∈ gs, -1 ≤ ans x ∧ ans x ≤ 65535) :
    Calls Tryd.prog 16 #[.slice (some ⟨g, 0, none⟩) n c, .slice A m cm] w (Nums (gs.map ans) w) := by
  obtain ⟨j0, hj0, jz0, jz1, jz2⟩ := info_parts intinfo
  have HM := Lib.hid hm
  have HS := Lib.hid hs
  have HL := Lib.hid hl
  have HA := Lib.hid hans
  clear hm hs hl hans
  go_enter Tryd.func16, Tryd.ntmps16
  go_wp2_with fail
  refine (HL.out _ (bel_made w _ _) (by simp) (by simp)).mono ?_
  rintro e w1 ⟨a1, a2, v0, rfl, hcall, hb⟩
  have HC := Lib.hid hcall
  have HB := Lib.hid ((bel_made w _ _).trans (hb.mono (by simp)))
  clear hcall hb
  go_wp2
  go_loopw [10, 30] (fun out i wr => ∃ k : Nat, k ≤ m ∧ i = .int .i64 k ∧ wr.ownsRow w1.heap.size 3 1 out k (vals .i64 ((gs.map ans).take k)) ∧ Below w1.heap.size w1 wr) (fun _ i _ => m - (intOf i).toNat)
  case atStart => exact ⟨0, Nat.zero_le _, rfl, World.ownsRow_nil _ _ _ _, Below.refl _ _⟩
  case round =>
    obtain ⟨k, hk, rfl, hown, hbel⟩ := hrel
    by_cases hlt : k < m
    · obtain ⟨b0, rfl, hb0, hA0⟩ := HS.out (by omega)
      have hlk : k < gs.length := by rw [← HM.out]; exact hlt
      obtain ⟨x, hx⟩ : ∃ x, x = gs.getD k 0 := ⟨_, rfl⟩
      have hxm : x ∈ gs := by
        rw [hx, List.getD_eq_getElem?_getD, List.getElem?_eq_getElem hlk]
        exact List.getElem_mem _
      have hcell : wr.cell? ⟨b0, k, none⟩ = some (.int .u16 x) := by
        have h1 := hA0.get hlk
        rw [Nat.zero_add, ← hx] at h1
        exact (hbel.cell (p := ⟨b0, k, none⟩) (Nat.lt_of_lt_of_le hb0 HB.out.size)).trans ((HB.out.cell (p := ⟨b0, k, none⟩) hb0).trans h1)
      have hax := HA.out x hxm
      have htk : (gs.map ans).take (k + 1) = (gs.map ans).take k ++ [ans x] := by rw [← List.map_take, take_snoc gs k hlk, ← hx, List.map_append, List.map_take]; rfl
      obtain ⟨a, ha⟩ : ∃ a, a = ans x := ⟨_, rfl⟩
      have hcx := HC.out wr hbel x hxm
      rw [← ha] at hax htk hcx
      have HT := Lib.hid htk
      have HO := Lib.hid hown
      have HBL := Lib.hid hbel
      have HCX := Lib.hid hcx
      clear htk hown hbel hcx ha hx hxm hA0 hlk
      go_wp2_with fail
      refine HCX.out.mono ?_
      rintro e w2 ⟨hor, hb2⟩
      have hb3 := HBL.out.trans (hb2.mono HBL.out.size)
      have HO2 := Lib.hid (own_keep HO.out hb2)
      have HB3 := Lib.hid hb3
      clear hb2 hb3
      rcases hor with ⟨r, rfl, hra⟩ | ⟨r, rfl, hra⟩
      · subst hra
        go_wp2_with (at_builtin; refine wpList_append_own _ rfl _ _ 23 rfl w1.heap.size 3 j0 (.int .i64 0) 1 8 Tryd.underlying23 hj0 jz0 jz1 jz2 rfl (by decide) _ _ _ rfl (HO2.out.alloc _) ⟨w2.heap.size, 0, none⟩ 1 1 [.int .i64 r] rfl rfl ?c1 ?c2 ?c3 ?c4 ?c5 ?_)
        case c1 =>
          intro j u hj
          match j, hj with
          | 0, hj => simp at hj; subst hj; simp [Addr.add]
        case c2 => intro u hu; simp at hu; subst hu; rfl
        case c3 => unfold maxLen; omega
        case c4 => omega
        case c5 => have := HB3.out.size; simp; omega
        intro p7 w7 hown7 hgrow7 hnil7
        have hb7 : Below w1.heap.size w1 w7 := (HB3.out.alloc HB3.out.size _).grown hgrow7 (by have := HB3.out.size; simp; omega) (fun g hg => own_ge HO2.out hg)
        have ho7 : w7.ownsRow w1.heap.size 3 1 p7 (k + 1) (vals .i64 ((gs.map ans).take (k + 1))) := by
          rw [HT.out, vals_app]
          exact hown7
        have HO7 := Lib.hid ho7
        have HB7 := Lib.hid hb7
        clear ho7 hb7 hown7 hgrow7 hnil7
        go_wp2
        go_roundw
        case rel => exact ⟨k + 1, by omega, by go_num, HO7.out, HB7.out⟩
        case measure => simp [intOf]; omega
      · subst hra
        go_wp2_with (at_builtin; refine wpList_append_own _ rfl _ _ 23 rfl w1.heap.size 3 j0 (.int .i64 0) 1 8 Tryd.underlying23 hj0 jz0 jz1 jz2 rfl (by decide) _ _ _ rfl (HO2.out.alloc _) ⟨w2.heap.size, 0, none⟩ 1 1 [.int .i64 (-1)] rfl rfl ?d1 ?d2 ?d3 ?d4 ?d5 ?_)
        case d1 =>
          intro j u hj
          match j, hj with
          | 0, hj => simp at hj; subst hj; simp [Addr.add]
        case d2 => intro u hu; simp at hu; subst hu; rfl
        case d3 => unfold maxLen; omega
        case d4 => omega
        case d5 => have := HB3.out.size; simp; omega
        intro p7 w7 hown7 hgrow7 hnil7
        have hb7 : Below w1.heap.size w1 w7 := (HB3.out.alloc HB3.out.size _).grown hgrow7 (by have := HB3.out.size; simp; omega) (fun g hg => own_ge HO2.out hg)
        have ho7 : w7.ownsRow w1.heap.size 3 1 p7 (k + 1) (vals .i64 ((gs.map ans).take (k + 1))) := by
          rw [HT.out, vals_app]
          exact hown7
        have HO7 := Lib.hid ho7
        have HB7 := Lib.hid hb7
        clear ho7 hb7 hown7 hgrow7 hnil7
        go_wp2
        go_roundw
        case rel => exact ⟨k + 1, by omega, by go_num, HO7.out, HB7.out⟩
        case measure => simp [intOf]; omega
    · have hkm : k = m := by omega
      subst hkm
      rw [List.take_of_length_le (by rw [List.length_map, ← HM.out]; exact Nat.le_refl _)] at hown
      have HO := Lib.hid hown
      have HB3 := Lib.hid (HB.out.trans (hbel.mono HB.out.size))
      have hl2 : (gs.map ans).length = k := by rw [List.length_map, ← HM.out]
      have HL2 := Lib.hid hl2
      clear hown hbel hl2
      go_wp2
      exact bodyPost_ret (v := .tuple #[_, .nilIface]) (by simp [results, Tryd.results16, go_sem]; rfl) rfl ⟨_, rfl, by rw [HL2.out]; exact own_base HO.out HB.out.size, HB3.out⟩
end Go.Proofs.YtbpcmdgfgibbjaaDoor.CovZ
