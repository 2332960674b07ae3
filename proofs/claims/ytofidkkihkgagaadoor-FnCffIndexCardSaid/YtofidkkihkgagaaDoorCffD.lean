/- Contracts of the export that reads an index of CFF, and of the thin package over it. -/
import Derived.Test.YtofidkkihkgagaaDoorCffC
namespace Go.Proofs.YtofidkkihkgagaaDoor.CffD
open Go.ChangeShapes Go.WideShapes Go.ChangeAt Go.RowKit
open Lst Mem SpecB SfntB View FourB CffA CffB CffC

/-- an index: how many, how wide, the places -/
def Idx (m W : Nat) (pl : List Int) (bs : List Int) (N : Nat) : Prop :=
  m + 1 = pl.length ∧ 1 ≤ m ∧ m ≤ 900 ∧ (W = 2 ∨ W = 3 ∨ W = 4) ∧ (∃ rest, bs = words [(m : Int)] ++ [(W : Int)] ++ wid W pl ++ rest) ∧ bs.length = N ∧ N ≤ 1000000 ∧
  pl.getD 0 0 = 1 ∧ (∀ k, 0 < k → k < pl.length → pl.getD (k - 1) 0 < pl.getD k 0) ∧ (∀ k, k < pl.length → 1 ≤ pl.getD k 0 ∧ pl.getD k 0 ≤ 65535 ∧ 3 + ((W * pl.length : Nat) : Int) + pl.getD k 0 - 1 ≤ N)
def front (W : Nat) (pl : List Int) : Int := 3 + ((W * pl.length : Nat) : Int)

/-- the cells of a parser that is all nought -/
noncomputable def zeros : Array Value := match (Tryd.prog.info? 99).bind (·.zero) with
  | some (.agg cs) => cs
  | _ => #[]
theorem z_run (w : World) : (zeroValue 99).run Tryd.prog w = .ok (.agg zeros) w := by kernel_rfl
theorem z_le : Nat.ble 6 zeros.size = true := by kernel_rfl
theorem z2 : zeros[2]? = some (.int .i64 0) := by kernel_rfl
theorem z4 : zeros[4]? = some .nilIface := by kernel_rfl
theorem z5 : zeros[5]? = some (.slice none 0 0) := by kernel_rfl
theorem z_ne : (zeros = #[]) = False := by
  have h := Nat.le_of_ble_eq_true z_le
  simp only [eq_iff_iff, iff_false]
  intro e
  rw [e] at h
  simp at h
theorem z_lt : (zeros.size < 4) = False := by
  have h := Nat.le_of_ble_eq_true z_le
  simp only [eq_iff_iff, iff_false]
  omega
/-- a new parser over a source -/
noncomputable def newPar (p : Nat) (n : Int) : Array Value := (zeros.setIfInBounds 0 (.pointer (some ⟨p, 0, none⟩))).setIfInBounds 3 (.int .i64 n)
theorem newPar_par (w : World) (p : Nat) (n : Int) : Par (w.alloc (.cells (newPar p n) 99)) w.heap.size p 0 n (.slice none 0 0) := by
  have h := Nat.le_of_ble_eq_true z_le
  have e : ∀ i, (w.alloc (.cells (newPar p n) 99)).cell? ⟨w.heap.size, i, none⟩ = (newPar p n)[i]? := fun i => by simp
  have f : ∀ i, (w.alloc (.cells (newPar p n) 99)).frozen? ⟨w.heap.size, i, none⟩ = false := fun i => by simp
  refine ⟨?_, ?_, ?_, ?_, ?_, f 2, f 4, f 5⟩ <;> rw [e] <;> unfold newPar
  · rw [Array.getElem?_setIfInBounds_ne (by decide), Array.getElem?_setIfInBounds_self_of_lt (by omega)]
  · rw [Array.getElem?_setIfInBounds_ne (by decide), Array.getElem?_setIfInBounds_ne (by decide), z2]
  · rw [Array.getElem?_setIfInBounds_self_of_lt (by simp; omega)]
  · rw [Array.getElem?_setIfInBounds_ne (by decide), Array.getElem?_setIfInBounds_ne (by decide), z4]
  · rw [Array.getElem?_setIfInBounds_ne (by decide), Array.getElem?_setIfInBounds_ne (by decide), z5]

set_option maxHeartbeats 3200000 in
set_option maxRecDepth 100000 in
theorem zz_any (g N c m W n : Nat) (pl bs : List Int) (w : World) (hx : Idx m W pl bs N) (hn : n = pl.length) (hA : At w g 0 (vals .u8 bs)) (hc : N ≤ c) (hg : g < w.heap.size) :
    Calls Tryd.prog 20 #[.slice (some ⟨g, 0, none⟩) N c] w
      fun e w' => (∃ g1, e = .returned (.tuple #[.slice (some ⟨g1, 0, none⟩) n n, .bool true]) ∧ At w' g1 0 (vals .u32 (pl.map fun a => front W pl + a - 1)) ∧ g1 < w'.heap.size) ∧ Below w.heap.size w w' := by
  obtain ⟨i0, hi0, hz0, hz1, hz2⟩ := info_parts u32info
  obtain ⟨x1, x2, x3, x4, ⟨rest, x5⟩, x6, x7, x8, x9, x10⟩ := hx
  have hW4 : W ≤ 4 := by omega
  have hNl : 3 + W * n ≤ N := by
    rw [← x6, x5, List.length_append, List.length_append, List.length_append, wid_len W hW4, hn, show (words [(m : Int)]).length = 2 from rfl]
    simp
  have b0 : bs[0]? = some (hi m) := by rw [x5]; rfl
  have b1 : bs[1]? = some (lo m) := by rw [x5]; rfl
  have b2 : bs[2]? = some (W : Int) := by rw [x5]; rfl
  have bA : At w g 3 (vals .u8 (wid W pl)) := by
    intro j u hu
    have := hA (3 + j) u (by
      rw [x5, vals_at] 
      rw [vals_at] at hu
      have hj : j < (wid W pl).length := by
        rcases Nat.lt_or_ge j (wid W pl).length with h | h
        · exact h
        · rw [List.getElem?_eq_none h] at hu; cases hu
      rw [List.getElem?_append_left (by rw [List.length_append, List.length_append, show (words [(m : Int)]).length = 2 from rfl]; simp; omega), List.getElem?_append_right (by simp [words]), show 3 + j - (words [(m : Int)] ++ [(W : Int)]).length = j by simp [words]]
      exact hu)
    rwa [Nat.zero_add] at this
  have k0 : w.cell? ⟨g, 0, none⟩ = some (.int .u8 (hi m)) := hA 0 _ (by rw [vals_at, b0]; rfl)
  have k1 : w.cell? ⟨g, 1, none⟩ = some (.int .u8 (lo m)) := hA 1 _ (by rw [vals_at, b1]; rfl)
  have k2 : w.cell? ⟨g, 2, none⟩ = some (.int .u8 W) := hA 2 _ (by rw [vals_at, b2]; rfl)
  have K0 := Lib.hid k0
  have K1 := Lib.hid k1
  have K2 := Lib.hid k2
  have BA := Lib.hid bA
  have X1 := Lib.hid x1
  have X4 := Lib.hid x4
  have X8 := Lib.hid x8
  have X9 := Lib.hid x9
  have X10 := Lib.hid x10
  have HN := Lib.hid hn
  have f1 : (m : Int) + 1 = (n : Int) := by omega
  have hn1 : n ≤ 1000 := by omega
  clear x1 x4 x5 x6 x8 x9 x10 b0 b1 b2 bA k0 k1 k2 hA hn
  have zr := z_run
  have zn := z_ne
  have zl := z_lt
  go_enter Tryd.func20, Tryd.ntmps20
  go_wp2_with fail
  have hP := newPar_par (w.alloc (.cells #[.slice (some ⟨g, 0, none⟩) N c, .nilIface] 56)) w.heap.size N
  rw [World.size_alloc] at hP
  unfold newPar at hP
  have hB1 : Below w.heap.size w ((w.alloc (.cells #[.slice (some ⟨g, 0, none⟩) N c, .nilIface] 56)).alloc (.cells ((zeros.setIfInBounds 0 (.pointer (some ⟨w.heap.size, 0, none⟩))).setIfInBounds 3 (.int .i64 N)) 99)) := ((Below.refl _ _).alloc (Nat.le_refl _) _).alloc (by simp) _
  have hS1 := keep_new (o := .cells ((zeros.setIfInBounds 0 (.pointer (some ⟨w.heap.size, 0, none⟩))).setIfInBounds 3 (.int .i64 N)) 99) (show (w.alloc (.cells #[.slice (some ⟨g, 0, none⟩) N c, .nilIface] 56)).cell? ⟨w.heap.size, 0, none⟩ = some (.slice (some ⟨g, 0, none⟩) N c) by simp)
  refine (header_any (w.heap.size + 1) w.heap.size g N c m W (.slice none 0 0) _ hP hS1 (by omega) hc (by omega) (by omega) (by have := X4.out; omega) (by omega) (by omega) (keep_new (keep_new K0.out)) (keep_new (keep_new K1.out)) (keep_new (keep_new K2.out))).mono ?_
  rintro e w2 ⟨rfl, ⟨bf, hp2⟩, hg2⟩
  have hB2 : Below w.heap.size w w2 := hB1.grown hg2 (by simp; omega) (fun g hg => by cases hg; omega)
  have hs2 := cell_grown hS1 hg2 (by simp)
  have hsz := hg2.size
  simp at hsz
  have HP2 := Lib.hid hp2
  have HB2 := Lib.hid hB2
  have HS2 := Lib.hid hs2
  clear hP hB1 hS1 hp2 hg2 hB2 hs2 zr zn zl
  go_wp2_with (at_make; refine wpList_make_full _ rfl _ _ 35 rfl w.heap.size 32 i0 (.int .u32 0) 1 Tryd.underlying35 hi0 hz0 hz1 .i32 .i32 _ _ n rfl rfl ?c1 ?c2 ?c3 ?c4 ?c5 ?_)
  case c1 => go_simp
  case c2 => go_simp
  case c3 => rw [hz2]; omega
  case c4 => unfold maxLen; omega
  case c5 => exact HB2.out.size
  intro w3 hown hgrow
  have hd : w3.ownsRow w.heap.size 32 1 (.slice (some ⟨w2.heap.size, 0, none⟩) n n) n (vals .u32 (List.replicate n 0)) := by
    rw [vals, List.map_replicate, ← toList_madeCells_one]
    simpa using hown
  have hb3 : Below w.heap.size w w3 := HB2.out.grown hgrow HB2.out.size (fun g hg => by cases hg)
  have hL := locs_any w.heap.size (w.heap.size + 1) w.heap.size g w2.heap.size N c W n m pl (front W pl) bf w3 HN.out (by omega) x2 hn1 X4.out (by unfold front; rw [HN.out]) (HP2.out.grown hgrow (by simp)) (cell_grown HS2.out hgrow (by simp)) (At.below BA.out hb3 hg) hNl hc (by omega)
    (by omega) (by omega) hg (by omega) hb3.size X8.out (by rw [HN.out]; exact X9.out) (by rw [HN.out]; exact X10.out) hd
  have HL := Lib.hid hL
  have HB3 := Lib.hid hb3
  clear hL hb3 hd hown hgrow
  go_wp2_with fail
  refine HL.out.mono ?_
  rintro e w4 ⟨rfl, hA4, hd4, hb4⟩
  have HA4 := Lib.hid hA4
  have HB4 := Lib.hid (HB3.out.trans hb4)
  clear hA4 hb4
  go_wp2
  exact bodyPost_ret (v := .tuple #[.slice (some ⟨w2.heap.size, 0, none⟩) n n, .bool true]) (by simp [results, Tryd.results20, go_sem]) rfl ⟨⟨_, rfl, HA4.out, hd4⟩, HB4.out⟩

set_option maxHeartbeats 800000 in
theorem impl_any (g N c m W n : Nat) (pl bs : List Int) (w : World) (hx : Idx m W pl bs N) (hn : n = pl.length) (hA : At w g 0 (vals .u8 bs)) :
    Calls Tryd.prog 12 #[.slice (some ⟨g, 0, none⟩) N c] w
      fun e w' => (∃ g1 cap, e = .returned (.tuple #[.slice (some ⟨g1, 0, none⟩) n cap, .bool true]) ∧ At w' g1 0 (vals .u32 (pl.map fun a => front W pl + a - 1)) ∧ w.heap.size ≤ g1 ∧ g1 < w'.heap.size) ∧ Below w.heap.size w w' := by
  have hbl : bs.length = N := hx.2.2.2.2.2.1
  have hNs : N ≤ 1000000 := hx.2.2.2.2.2.2.1
  have hnl : n ≤ 1000 := by have := hx.1; have := hx.2.2.1; omega
  have hml : (pl.map fun a => front W pl + a - 1).length = n := by rw [List.length_map, hn]
  have hcl := clone_any g 0 c bs w hA (by omega)
  rw [hbl] at hcl
  have HC := Lib.hid hcl
  have HBL := Lib.hid hbl
  have HX := Lib.hid hx
  have HN := Lib.hid hn
  have HML := Lib.hid hml
  clear hcl hbl hA hx hn hml
  go_enter Tryd.func12, Tryd.ntmps12
  go_wp2_with fail
  refine HC.out.mono ?_
  intro e w1 hm1
  obtain ⟨g1, cap, rfl, hA1, hcap, hg1, hg2, hb1⟩ := made_open hm1
  rw [HBL.out] at hcap ⊢
  have HZ := Lib.hid (zz_any g1 N cap m W n pl bs w1 HX.out HN.out hA1 hcap hg1)
  have HB1 := Lib.hid hb1
  clear hA1 hm1 hb1
  go_wp2_with fail
  refine HZ.out.mono ?_
  rintro e w2 ⟨⟨g2, rfl, hA2, hg2'⟩, hb2⟩
  have hK := clone4_any g2 0 n (pl.map fun a => front W pl + a - 1) w2 hA2 (by rw [HML.out]; omega)
  rw [HML.out] at hK
  have HK := Lib.hid hK
  have HB2 := Lib.hid (HB1.out.trans (hb2.mono HB1.out.size))
  clear hK hb2 hA2
  go_wp2_with fail
  refine HK.out.mono ?_
  rintro e w3 ⟨v, rfl, ho, hv, hb3⟩
  rw [HML.out] at ho
  obtain ⟨g4, cap4, rfl, hA4, hcap4, hg4, hg4'⟩ := own_open ho hv
  have HA4 := Lib.hid hA4
  have HB3 := Lib.hid (HB2.out.trans (hb3.mono HB2.out.size))
  have hgg : w.heap.size ≤ g4 := Nat.le_trans HB2.out.size hg4'
  clear ho hv hb3 hA4
  go_wp2
  exact bodyPost_ret (v := .tuple #[.slice (some ⟨g4, 0, none⟩) n cap4, .bool true]) (by simp [results, Tryd.results12, go_sem]) rfl ⟨⟨g4, cap4, rfl, HA4.out, hgg, hg4⟩, HB3.out⟩
end Go.Proofs.YtofidkkihkgagaaDoor.CffD
