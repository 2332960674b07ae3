/- Contract of the reading of a table of letters: format 6. -/
import Derived.Test.YthcdolgmifkfdaaDoorCmpM
namespace Go.Proofs.YthcdolgmifkfdaaDoor.CmpN
open Go.ChangeShapes Go.WideShapes Go.ChangeAt Go.RowKit
open Lst Mem RowG SpecB GlyM CadL FourB View VewZ CmpC CmpM
set_option linter.unusedSimpArgs false
set_option linter.unusedVariables false
/-- one of numbers of two bytes, wherever it is spelt -/
theorem u16G {g q a i n c : Nat} {L : List Int} {x : Int} {w : World} (h : At w g q (vals .u8 (words L))) (ha : a = q + 2 * i) (hil : i < L.length) (hx : L.getD i 0 = x) (hb : 0 ≤ x ∧ x ≤ 65535) (hn : 2 ≤ n) :
    Calls Tryd.prog 27 #[.slice (some ⟨g, a, none⟩) n c] w fun e w' => e = .returned (.int .u16 x) ∧ w.drew = w' := by
  subst ha hx
  obtain ⟨x, hx⟩ : ∃ x, x = L.getD i 0 := ⟨_, rfl⟩
  have hcell : ∀ j y, [hi x, lo x][j]? = some y → j < 2 → w.cell? ⟨g, q + 2 * i + j, none⟩ = some (.int .u8 y) := fun j y hy hj => by
    have := h (2 * i + j) (.int .u8 y) (by rw [vals_at, words_at L i j hil hj, ← hx, hy]; rfl)
    rw [← Nat.add_assoc] at this
    exact this
  have := SfntB.u16_any g (q + 2 * i) n c _ _ w hn (hi_bd x) (lo_bd x) (hcell 0 _ rfl (by decide)) (hcell 1 _ rfl (by decide))
  rw [← hx] at hb
  rw [show hi x * 256 + lo x = x by unfold hi lo; omega] at this
  rw [← hx]
  exact this
def L6 (f : Int) (es : List Int) : List Int := [6, 10 + 2 * (es.length : Int), 0, f, es.length] ++ es
theorem L6_len (f : Int) (es : List Int) : (L6 f es).length = 5 + es.length := by rw [L6, List.length_append]; rfl
theorem L6_get (f : Int) (es : List Int) (k : Nat) : (L6 f es).getD (5 + k) 0 = es.getD k 0 := by
  rw [L6, List.getD_eq_getElem?_getD, List.getElem?_append_right (by simp), ← List.getD_eq_getElem?_getD, show 5 + k - ([6, 10 + 2 * (es.length : Int), 0, f, (es.length : Int)]).length = k by simp]
theorem u16info : (Tryd.prog.info? 44).map (fun i => (i.zero, i.size, i.bytes)) = some (some (.int .u16 0), 1, 2) := by kernel_rfl
/-- a new row's block -/
theorem own_blk {w : World} {B n g sz : Nat} {e : TypeId} {xs : List Value} (h : w.ownsRow B e sz (.slice (some ⟨g, 0, none⟩) n n) n xs) : ∃ cs, Blk g e cs w ∧ cs.length = n * sz := by
  rcases h.2 with ⟨h, _⟩ | ⟨g0, cap, cur, hv, hg0, hh, rest⟩
  · cases h
  · injection hv with hv _ hcp
    injection hv with hv
    injection hv with hv
    subst hv hcp
    exact ⟨cur.toList, by unfold Blk; simpa using hh, by simpa using rest.2.2.1⟩
/-- a row of numbers, filled up to k -/
def Fil1 (es : List Int) (k : Nat) (cs : List Value) : Prop := cs.length = es.length ∧ ∀ i, i < k → cs[i]? = some (.int .u16 (es.getD i 0))
theorem Fil1.step {es : List Int} {k : Nat} {cs : List Value} (h : Fil1 es k cs) (hk : k < es.length) : Fil1 es (k + 1) (cs.set k (.int .u16 (es.getD k 0))) := by
  obtain ⟨h1, h2⟩ := h
  refine ⟨by simp [h1], fun i hi => ?_⟩
  rcases Nat.eq_or_lt_of_le (Nat.le_of_lt_succ hi) with rfl | hi
  · rw [List.getElem?_set_self (by omega)]
  · rw [List.getElem?_set_ne (by omega)]; exact h2 i hi
theorem Fil1.at_ {es : List Int} {cs : List Value} {w : World} {g : Nat} {t : TypeId} (h : Fil1 es es.length cs) (hb : Blk g t cs w) : At w g 0 (vals .u16 es) := fun q u hu => by
  have hq : q < es.length := by
    rcases Nat.lt_or_ge q es.length with h | h
    · exact h
    · rw [vals_at, List.getElem?_eq_none h] at hu; cases hu
  have h2 := h.2 q hq
  rw [vals_at, List.getElem?_eq_getElem hq] at hu
  rw [List.getD_eq_getElem?_getD, List.getElem?_eq_getElem hq] at h2
  rw [Nat.zero_add]
  exact (hb.cell h2).trans hu
set_option maxHeartbeats 4000000 in
set_option maxRecDepth 4000 in
theorem mk6 (fb g n c off len m : Nat) (f : Int) (es : List Int) (w : World) (hF : Fc fb g n c w) (hA : At w g off (vals .u8 (words (L6 f es)))) (hm : m = es.length) (hn : n = off + 10 + 2 * m) (hnc : n ≤ c) (ho : off ≤ 100) (hlen : len ≤ 60000) (h40 : m ≤ 100) (hf : 0 ≤ f ∧ f ≤ 65535) (hes : ∀ x ∈ es, 0 ≤ x ∧ x ≤ 65535) :
    Calls Tryd.prog 22 #[.pointer (some ⟨fb, 0, none⟩), .slice none 0 0, .int .u32 (off : Int), .int .u32 (len : Int)] w
      fun e w' => ∃ buf cb eb A c', e = .returned (.tuple #[buf, .func (Fn.func 30) #[] #[.pointer (some ⟨cb, 0, none⟩), .pointer (some ⟨eb, 0, none⟩)], .nilIface]) ∧ w'.cell? ⟨cb, 0, none⟩ = some (.int .u16 f) ∧ w'.cell? ⟨eb, 0, none⟩ = some (.slice A m c') ∧ (0 < m → ∃ g', A = some ⟨g', 0, none⟩ ∧ At w' g' 0 (vals .u16 es)) ∧ Below w.heap.size w w' := by
  obtain ⟨p, hp⟩ : ∃ p : Nat, p = 2 * m := ⟨_, rfl⟩
  have hLl : (L6 f es).length = 5 + m := by rw [L6_len, hm]
  have L3 : (L6 f es).getD 3 0 = f := rfl
  have L4 : (L6 f es).getD 4 0 = (m : Int) := by rw [hm]; rfl
  have hgl : g < w.heap.size := World.block_lt_of_cell? w _ (hA 0 (.int .u8 ((words (L6 f es)).getD 0 0)) (by rw [vals_at, List.getD_eq_getElem?_getD]; have h4 : 0 < (words (L6 f es)).length := (by rw [words_len]; omega); rw [List.getElem?_eq_getElem h4]; rfl))
  have hAW : ∀ W, Below w.heap.size w W → At W g off (vals .u8 (words (L6 f es))) := fun W hb j u hu => (hb.cell (p := ⟨g, off + j, none⟩) hgl).trans (hA j u hu)
  obtain ⟨c1, hc1⟩ : ∃ c1, c1 = c - off := ⟨_, rfl⟩
  obtain ⟨c2, hc2⟩ : ∃ c2, c2 = c - (off + 10) := ⟨_, rfl⟩
  have hc1b : 10 ≤ c1 := by omega
  have hc2b : p ≤ c2 := by omega
  have HV := Lib.hid (fun W (hb : Below w.heap.size w W) => view_all fb g n c off 10 (.slice none 0 0) W (hF.below hb).src (by omega) hnc (by omega))
  have HU3 := Lib.hid (fun W (hb : Below w.heap.size w W) => u16G (a := off + 6) (n := 4) (c := c1 - 6) (hAW W hb) (by omega) (i := 3) (by omega) L3 (by omega) (by omega))
  have HU4 := Lib.hid (fun W (hb : Below w.heap.size w W) => u16G (a := off + 8) (n := 2) (c := c1 - 8) (hAW W hb) (by omega) (i := 4) (by omega) L4 (by omega) (by omega))
  have HV2 := Lib.hid (fun W (hb : Below w.heap.size w W) => view_all fb g n c (off + 10) p (.slice (some ⟨g, off, none⟩) 10 c1) W (hF.below hb).src (by omega) hnc (by omega))
  obtain ⟨va, hva⟩ : ∃ va, va = vat (off + 10) p c := ⟨_, rfl⟩
  rw [← hva, ← hc2] at HV2
  have HVA := Lib.hid (show 0 < m → va = off + 10 from fun h => by rw [hva, vat, if_neg (by omega)])
  have f3 := hF.off
  have f4 := hF.len
  have t1 : IntKind.u32.wrap ((off : Int) + 10) = (off : Int) + 10 := IntWalk.u32_in _ (by omega)
  have t2' : ¬ ((n : Int) < (off : Int) + 10) := by omega
  have t3 : IntKind.u32.wrap (0 + (off : Int)) = (off : Int) := by rw [Int.zero_add]; exact IntWalk.u32_in _ (by omega)
  have t3' : IntKind.u32.wrap (off : Int) = (off : Int) := IntWalk.u32_in _ (by omega)
  have t4 : IntKind.i64.wrap (off : Int) = (off : Int) := IntWalk.i64_in _ (by omega)
  have t7 : IntKind.u32.wrap (m : Int) = (m : Int) := IntWalk.u32_in _ (by omega)
  have t9 : (2 : Int) * (m : Int) = (p : Int) := by omega
  have t10 : IntKind.u32.wrap (p : Int) = (p : Int) := IntWalk.u32_in _ (by omega)
  have t11 : ¬ ((n : Int) < (off : Int) + 10 + (p : Int)) := by omega
  have t12 : IntKind.u32.wrap (0 + ((off : Int) + 10)) = (off : Int) + 10 := by rw [Int.zero_add]; exact t1
  have t13 : IntKind.i64.wrap ((off : Int) + 10) = ((off + 10 : Nat) : Int) := by rw [IntWalk.i64_in _ (by omega)]; rfl
  have t14 : IntKind.i64.wrap (p : Int) = (p : Int) := IntWalk.i64_in _ (by omega)
  have t15 : IntKind.u32.wrap ((off : Int) + 10 + (p : Int)) = (off : Int) + 10 + (p : Int) := IntWalk.u32_in _ (by omega)
  have t16 : ¬ (c1 = 6) := by omega
  have t17 : ¬ (c1 = 8) := by omega
  have t18 : 6 ≤ c1 := by omega
  have t19 : 8 ≤ c1 := by omega
  have e0 : vat off 10 c = off := by simp [vat]
  rw [e0, ← hc1] at HV
  have HF := Lib.hid hF
  have HA := Lib.hid (And.intro hAW hLl)
  have HP := Lib.hid (And.intro hes (And.intro hm hp))
  clear hF hA hAW hes hm e0 hp hn hva L3 L4 hLl hc1 hc2
  go_enter Tryd.func22, Tryd.ntmps22
  go_wp2_with fail
  go_quiet ((go_at_call 24; exact quiet_same (HV.out _ (below_draws (Below.refl _ _) _))))
  go_wp2_with fail
  refine (HU3.out _ (below_draws (Below.refl _ _) _)).mono ?_
  rintro e W ⟨rfl, hW⟩
  have hbW : Below w.heap.size w W := by rw [← hW]; exact Below.drew (below_draws (Below.refl _ _) _)
  have HW := Lib.hid hbW
  clear hW hbW f3 f4
  -- CONT
  go_wp2_with fail
  obtain ⟨cb, hcb⟩ : ∃ cb, cb = W.heap.size := ⟨_, rfl⟩
  obtain ⟨Y1, hY1⟩ : ∃ Y, Y = W.alloc (.cells #[.int .u16 f] 44) := ⟨_, rfl⟩
  have hcY : Blk cb 44 [.int .u16 f] Y1 := by rw [hY1, hcb]; exact Blk.new_ W _ _
  have hbY1 : Below w.heap.size w Y1 := by rw [hY1]; exact HW.out.alloc HW.out.size _
  rw [← hY1, ← hcb]
  clear hY1 hcb
  refine (HU4.out Y1 hbY1).mono ?_
  rintro e Z ⟨rfl, hZ⟩
  have hcZ : Blk cb 44 [.int .u16 f] Z := by rw [← hZ]; exact hcY
  have hbZ : Below w.heap.size w Z := by rw [← hZ]; exact Below.drew hbY1
  have hFZ := HF.out.below hbZ
  have f3 := hFZ.off
  have f4 := hFZ.len
  have HZ := Lib.hid (And.intro hcZ hbZ)
  clear hZ hcZ hbZ hFZ hcY hbY1
  by_cases h0 : m = 0
  · have H0 := Lib.hid h0
    have h1 : ((m : Int) != 0) = false := by simp [h0]
    clear h0
    have HZ0 := HZ
    obtain ⟨i0, hi0, hz0, hz1, hz2⟩ := info_parts u16info
    go_wp2_with (at_make; refine wpList_make_full _ rfl _ _ 24 rfl w.heap.size 44 i0 (.int .u16 0) 1 Tryd.underlying24 hi0 hz0 hz1 .u16 .u16 _ _ m rfl rfl ?c1 ?c2 ?c3 ?c4 ?c5 ?_)
    case c1 => rfl
    case c2 => rfl
    case c3 => rw [hz2]; omega
    case c4 => unfold maxLen; omega
    case c5 => exact HZ0.out.2.size
    intro w1 hown hgrow
    obtain ⟨cs0, hB0, hl0⟩ := own_blk hown
    have hb1 : Below w.heap.size w w1 := HZ0.out.2.grown hgrow HZ0.out.2.size (fun j hj => by cases hj)
    have hC1 : Blk cb 44 [.int .u16 f] w1 := blk_grown HZ0.out.1 hgrow (by simp)
    have hgs : w.heap.size ≤ Z.heap.size := HZ0.out.2.size
    have hcbz := HZ0.out.1.lt
    have hXs : Z.heap.size < w1.heap.size := hB0.lt
    obtain ⟨gb, hgb⟩ : ∃ gb, gb = Z.heap.size := ⟨_, rfl⟩
    obtain ⟨eb, heb⟩ : ∃ eb, eb = w1.heap.size := ⟨_, rfl⟩
    obtain ⟨Y, hY⟩ : ∃ Y, Y = w1.alloc (.cells #[.slice (some ⟨Z.heap.size, 0, none⟩) m m] 24) := ⟨_, rfl⟩
    have hBY : Blk gb 44 cs0 Y := by rw [hY, hgb]; exact hB0.keep (bel_made _ _ _)
    have hCY : Blk cb 44 [.int .u16 f] Y := by rw [hY]; exact hC1.keep (bel_made _ _ _)
    have hEY : Blk eb 24 [.slice (some ⟨gb, 0, none⟩) m m] Y := by rw [hY, hgb, heb]; exact Blk.new_ w1 _ _
    have hbY : Below w.heap.size w Y := by rw [hY]; exact hb1.alloc hb1.size _
    have hne : gb ≠ eb := by omega
    have hcg : cb ≠ gb := by omega
    have hgw : w.heap.size ≤ gb := by omega
    have HY := Lib.hid (And.intro hBY (And.intro hCY (And.intro hEY hbY)))
    have HL0 := Lib.hid hl0
    clear hown hgrow hB0 hb1 hgs hXs hBY hCY hEY hbY hl0 hC1 hcbz HZ0
    go_wp2_with fail
    rw [← hY, ← hgb, ← heb]
    clear hY hgb heb
    go_loopw [96] (fun i wr => ∃ (k : Nat) (cs : List Value), i = .int .i64 k ∧ k ≤ m ∧ Blk gb 44 cs wr ∧ Fil1 es k cs ∧ Blk cb 44 [.int .u16 f] wr ∧ Blk eb 24 [.slice (some ⟨gb, 0, none⟩) m m] wr ∧ Below w.heap.size w wr) (fun i _ => m - (intOf i).toNat)
    case atStart => exact ⟨0, cs0, rfl, Nat.zero_le _, HY.out.1, ⟨by rw [HL0.out, Nat.mul_one, HP.out.2.1], fun i h => by omega⟩, HY.out.2.1, HY.out.2.2.1, HY.out.2.2.2⟩
    case round =>
      clear HY
      obtain ⟨k, cs, rfl, hk, hB, hfl, hC, hE, hbel⟩ := hrel
      obtain ⟨V, hV⟩ : ∃ V, V = wr := ⟨_, rfl⟩
      subst hV
      by_cases hlt : k < m
      · exact absurd hlt (by have := H0.out; omega)
      · obtain rfl : k = m := by omega
        have HS := Lib.hid (And.intro hB (And.intro hfl (And.intro hC (And.intro hE hbel))))
        clear hB hfl hC hE hbel
        go_wp2
        exact bodyPost_ret (v := .tuple #[.slice (some ⟨g, off, none⟩) 10 c1, .func (Fn.func 30) #[] #[.pointer (some ⟨cb, 0, none⟩), .pointer (some ⟨eb, 0, none⟩)], .nilIface]) (by simp [results, Tryd.results22, go_sem]) rfl ⟨_, cb, eb, _, _, rfl, HS.out.2.2.1.cell (i := 0) rfl, HS.out.2.2.2.1.cell (i := 0) rfl, fun _ => ⟨gb, rfl, by have := HS.out.2.1; rw [HP.out.2.1] at this; exact this.at_ HS.out.1⟩, HS.out.2.2.2.2⟩
  · have h1 : ((m : Int) != 0) = true := by simp [h0]
    clear h0
    have HV3 := Lib.hid (fun k => HV2.out (Z.drewN k) (below_draws HZ.out.2 k))
    go_wp2_with fail
    go_quiet ((go_at_call 24; exact quiet_same (HV3.out _)))
    obtain ⟨X, hX⟩ : ∃ X, X = Z.drewN nq := ⟨_, rfl⟩
    have hcX : Blk cb 44 [.int .u16 f] X := by rw [hX]; exact HZ.out.1
    have hbX : Below w.heap.size w X := by rw [hX]; exact below_draws HZ.out.2 _
    rw [← hX]
    have HZ0 := Lib.hid (And.intro hcX hbX)
    clear hX hcX hbX f3 f4 HV3 HZ
    obtain ⟨i0, hi0, hz0, hz1, hz2⟩ := info_parts u16info
    go_wp2_with (at_make; refine wpList_make_full _ rfl _ _ 24 rfl w.heap.size 44 i0 (.int .u16 0) 1 Tryd.underlying24 hi0 hz0 hz1 .u16 .u16 _ _ m rfl rfl ?c1 ?c2 ?c3 ?c4 ?c5 ?_)
    case c1 => rfl
    case c2 => rfl
    case c3 => rw [hz2]; omega
    case c4 => unfold maxLen; omega
    case c5 => exact HZ0.out.2.size
    intro w1 hown hgrow
    obtain ⟨cs0, hB0, hl0⟩ := own_blk hown
    have hb1 : Below w.heap.size w w1 := HZ0.out.2.grown hgrow HZ0.out.2.size (fun j hj => by cases hj)
    have hC1 : Blk cb 44 [.int .u16 f] w1 := blk_grown HZ0.out.1 hgrow (by simp)
    have hgs : w.heap.size ≤ X.heap.size := HZ0.out.2.size
    have hcbz := HZ0.out.1.lt
    have hXs : X.heap.size < w1.heap.size := hB0.lt
    obtain ⟨gb, hgb⟩ : ∃ gb, gb = X.heap.size := ⟨_, rfl⟩
    obtain ⟨eb, heb⟩ : ∃ eb, eb = w1.heap.size := ⟨_, rfl⟩
    obtain ⟨Y, hY⟩ : ∃ Y, Y = w1.alloc (.cells #[.slice (some ⟨X.heap.size, 0, none⟩) m m] 24) := ⟨_, rfl⟩
    have hBY : Blk gb 44 cs0 Y := by rw [hY, hgb]; exact hB0.keep (bel_made _ _ _)
    have hCY : Blk cb 44 [.int .u16 f] Y := by rw [hY]; exact hC1.keep (bel_made _ _ _)
    have hEY : Blk eb 24 [.slice (some ⟨gb, 0, none⟩) m m] Y := by rw [hY, hgb, heb]; exact Blk.new_ w1 _ _
    have hbY : Below w.heap.size w Y := by rw [hY]; exact hb1.alloc hb1.size _
    have hne : gb ≠ eb := by omega
    have hcg : cb ≠ gb := by omega
    have hgw : w.heap.size ≤ gb := by omega
    have HY := Lib.hid (And.intro hBY (And.intro hCY (And.intro hEY hbY)))
    have HL0 := Lib.hid hl0
    clear hown hgrow hB0 hb1 hgs hXs hBY hCY hEY hbY hl0 hC1 hcbz HZ0
    go_wp2_with fail
    rw [← hY, ← hgb, ← heb]
    clear hY hgb heb
    go_loopw [96] (fun i wr => ∃ (k : Nat) (cs : List Value), i = .int .i64 k ∧ k ≤ m ∧ Blk gb 44 cs wr ∧ Fil1 es k cs ∧ Blk cb 44 [.int .u16 f] wr ∧ Blk eb 24 [.slice (some ⟨gb, 0, none⟩) m m] wr ∧ Below w.heap.size w wr) (fun i _ => m - (intOf i).toNat)
    case atStart => exact ⟨0, cs0, rfl, Nat.zero_le _, HY.out.1, ⟨by rw [HL0.out, Nat.mul_one, HP.out.2.1], fun i h => by omega⟩, HY.out.2.1, HY.out.2.2.1, HY.out.2.2.2⟩
    case round =>
      clear HY
      obtain ⟨k, cs, rfl, hk, hB, hfl, hC, hE, hbel⟩ := hrel
      obtain ⟨V, hV⟩ : ∃ V, V = wr := ⟨_, rfl⟩
      subst hV
      by_cases hlt : k < m
      · have hva := HVA.out (by omega)
        subst hva
        obtain ⟨u0, g0⟩ : ∃ u, cs[k]? = some u := ⟨_, List.getElem?_eq_getElem (by have := hfl.1; rw [← HP.out.2.1] at this; omega)⟩
        have hkl : k < es.length := by rw [← HP.out.2.1]; exact hlt
        have hx := HP.out.1 _ (getD_mem es k 0 hkl)
        have l0 := L6_get f es k
        have hst := hfl.step hkl
        obtain ⟨x, hxx⟩ : ∃ x, es.getD k 0 = x := ⟨_, rfl⟩
        rw [hxx] at hx l0 hst
        obtain ⟨d, hd⟩ : ∃ d : Nat, (2 : Int) * (k : Int) = (d : Int) := ⟨2 * k, by omega⟩
        have hp200 : p ≤ 200 ∧ p = 2 * m := by have := HP.out.2.2; omega
        have hpd : d + 2 ≤ p := by omega
        have HC0 := Lib.hid (fun n => u16G (a := off + 10 + d) (n := p - d) (c := c2 - d) (HA.out.1 (V.drewN n) (below_draws hbel n)) (by omega) (i := 5 + k) (by rw [HA.out.2]; omega) l0 hx (by omega))
        have v0 := hE.cell (i := 0) rfl
        have HS := Lib.hid (And.intro hst (And.intro g0 (And.intro hB (And.intro hC (And.intro hE hbel)))))
        have w1 : IntKind.i64.wrap (d : Int) = (d : Int) := IntWalk.i64_in _ (by omega)
        have s4 : ¬ (c2 = d) := by omega
        have s7 : d ≤ p := by omega
        clear hst hfl hB hC hE hbel g0 l0 hxx hpd hp200 hkl
        go_wp2_with fail
        refine QTl.region 8 (by kernel_rfl) (by kernel_rfl) ?_
        simp only [List.take_succ_cons, List.take_zero, List.drop_succ_cons, List.drop_zero]
        repeat (refine wpQuiet_step (fun K hK => ?_); go_simp; first | (refine hK _ ?_; clear hK K) | (apply Exists.intro; refine ⟨fun _ => ?_, hK _ ?_⟩; ((go_at_call 27; with_reducible exact quiet_drew (HC0.out _))); clear hK K))
        refine wpQuiet_nil ?_
        intro mm X2 hX2
        have hB2 : Blk gb 44 cs X2 := by rw [← hX2]; exact HS.out.2.2.1
        have hC2 : Blk cb 44 [.int .u16 f] X2 := by rw [← hX2]; exact HS.out.2.2.2.1
        have hE2 : Blk eb 24 [.slice (some ⟨gb, 0, none⟩) m m] X2 := by rw [← hX2]; exact HS.out.2.2.2.2.1
        have hb2 : Below w.heap.size w X2 := by rw [← hX2]; exact below_draws HS.out.2.2.2.2.2 _
        have z0 := hB2.cell HS.out.2.1
        have zf := hB2.frozen
        have HZ := Lib.hid (And.intro (hB2.set_ k (.int .u16 x)) (And.intro (hC2.other (i := k) (v := .int .u16 x) hcg) (And.intro (hE2.other (i := k) (v := .int .u16 x) hne.symm) (hb2.setCell (p := ⟨gb, k, none⟩) hgw (.int .u16 x)))))
        clear hX2 hB2 hC2 hE2 hb2 v0
        go_wp2_with fail
        go_roundw
        case rel => exact ⟨k + 1, _, by go_num, hlt, HZ.out.1, HS.out.1, HZ.out.2.1, HZ.out.2.2.1, HZ.out.2.2.2⟩
        case measure => simp [intOf]; omega
      · obtain rfl : k = m := by omega
        have HS := Lib.hid (And.intro hB (And.intro hfl (And.intro hC (And.intro hE hbel))))
        clear hB hfl hC hE hbel
        go_wp2
        exact bodyPost_ret (v := .tuple #[.slice (some ⟨g, va, none⟩) p c2, .func (Fn.func 30) #[] #[.pointer (some ⟨cb, 0, none⟩), .pointer (some ⟨eb, 0, none⟩)], .nilIface]) (by simp [results, Tryd.results22, go_sem]) rfl ⟨_, cb, eb, _, _, rfl, HS.out.2.2.1.cell (i := 0) rfl, HS.out.2.2.2.1.cell (i := 0) rfl, fun _ => ⟨gb, rfl, by have := HS.out.2.1; rw [HP.out.2.1] at this; exact this.at_ HS.out.1⟩, HS.out.2.2.2.2⟩
end Go.Proofs.YthcdolgmifkfdaaDoor.CmpN
