/- Contract of the reading of the places of an index of CFF: the loop over them. -/
import Derived.Test.YtofidkkihkgagaaDoorCffB
namespace Go.Proofs.YtofidkkihkgagaaDoor.CffC
open Go.ChangeShapes Go.WideShapes Go.ChangeAt Go.RowKit
open Lst Mem SpecB SfntB View FourB CffA CffB

/-- places in W bytes each -/
def wid (W : Nat) (l : List Int) : List Int := l.flatMap fun a => (four a).drop (4 - W)
theorem wid_snoc (W : Nat) (l : List Int) (x : Int) : wid W (l ++ [x]) = wid W l ++ (four x).drop (4 - W) := by simp [wid]
theorem wid_len (W : Nat) (hW : W ≤ 4) (l : List Int) : (wid W l).length = W * l.length := by
  induction l with
  | nil => simp [wid]
  | cons x l ih =>
    have : wid W (x :: l) = (four x).drop (4 - W) ++ wid W l := by simp [wid]
    rw [this, List.length_append, ih, List.length_drop, List.length_cons, show (four x).length = 4 from rfl, Nat.mul_add]
    omega
theorem wid_at (W : Nat) (hW : W ≤ 4) (ls : List Int) (k j : Nat) (h : k < ls.length) (hj : j < W) : (wid W ls)[W * k + j]? = ((four (ls.getD k 0)).drop (4 - W))[j]? := by
  induction ls generalizing k with
  | nil => simp at h
  | cons x l ih =>
    have e : wid W (x :: l) = (four x).drop (4 - W) ++ wid W l := by simp [wid]
    have l4 : ((four x).drop (4 - W)).length = W := by rw [List.length_drop, show (four x).length = 4 from rfl]; omega
    rw [e]
    cases k with
    | zero => rw [List.getElem?_append_left (by omega)]; simp
    | succ k =>
      rw [List.getElem?_append_right (by rw [l4, Nat.mul_add]; omega), l4, show W * (k + 1) + j - W = W * k + j by rw [Nat.mul_add]; omega, ih k (by simpa using h)]
      simp
theorem wid_cell {w : World} {g off W : Nat} {pl : List Int} (hW : W ≤ 4) (hA : At w g off (vals .u8 (wid W pl))) (k : Nat) (hk : k < pl.length) : At w g (off + W * k) (vals .u8 ((four (pl.getD k 0)).drop (4 - W))) := by
  intro j u hu
  have hj : j < W := by
    have := (List.getElem?_eq_some_iff.1 hu).1
    rw [vals_len, List.length_drop, show (four (pl.getD k 0)).length = 4 from rfl] at this
    omega
  have := hA (W * k + j) u (by rw [vals_at, wid_at W hW pl k j hk hj, ← vals_at]; exact hu)
  rwa [← Nat.add_assoc] at this

set_option maxHeartbeats 3200000 in
set_option maxRecDepth 3000 in
theorem locs_any (B pb sb g db N c W n m : Nat) (pl : List Int) (F : Int) (buf : Value) (w : World) (hn : n = pl.length) (hm : m + 1 = n) (hm1 : 1 ≤ m) (hn1 : n ≤ 1000) (hW : W = 2 ∨ W = 3 ∨ W = 4) (hF : F = 3 + ((W * n : Nat) : Int))
    (hp : Par w pb sb 3 N buf) (hs : w.cell? ⟨sb, 0, none⟩ = some (.slice (some ⟨g, 0, none⟩) N c)) (hA : At w g 3 (vals .u8 (wid W pl))) (hN : 3 + W * n ≤ N) (hc : N ≤ c) (hbig : N ≤ 100000000)
    (hBp : B ≤ pb) (hBd : B ≤ db) (hgB : g < B) (hpd : pb ≠ db) (hBw : B ≤ w.heap.size) (hfirst : pl.getD 0 0 = 1) (hup : ∀ k, 0 < k → k < n → pl.getD (k - 1) 0 < pl.getD k 0) (hbd : ∀ k, k < n → 1 ≤ pl.getD k 0 ∧ pl.getD k 0 ≤ 65535 ∧ F + pl.getD k 0 - 1 ≤ N)
    (hd : w.ownsRow B 32 1 (.slice (some ⟨db, 0, none⟩) n n) n (vals .u32 (List.replicate n 0))) :
    Calls Tryd.prog 25 #[.pointer (some ⟨pb, 0, none⟩), .slice (some ⟨db, 0, none⟩) n n, .int .i32 (m : Int), .int .i32 (W : Int)] w
      fun e w' => e = .returned (.bool true) ∧ At w' db 0 (vals .u32 (pl.map fun a => F + a - 1)) ∧ db < w'.heap.size ∧ Below B w w' := by
  have hlen : (W * n : Nat) ≤ 4000 := by
    have : W * n ≤ 4 * n := Nat.mul_le_mul_right _ (by omega)
    omega
  have hWb : W ≤ 4 := by omega
  have hpos : 0 < W * n := Nat.mul_pos (by omega) (by omega)
  have hr := read_any pb sb g N c 3 (W * n) buf w hp hs hpos (by omega) hc hbig
  rw [show ((3 : Nat) : Int) + ((W * n : Nat) : Int) = F by rw [hF]; rfl] at hr
  obtain ⟨R, hR⟩ : ∃ R : Nat, R = W * n := ⟨_, rfl⟩
  rw [← hR] at hr hlen hN hF
  have HR := Lib.hid hr
  have HN := Lib.hid hn
  have HA := Lib.hid hA
  have HRR := Lib.hid hR
  have HUP := Lib.hid hup
  have HBD := Lib.hid hbd
  have HF1 := Lib.hid hfirst
  have HD := Lib.hid hd
  have HW := Lib.hid hW
  have HF := Lib.hid hF
  have hF1 : 3 ≤ F ∧ F ≤ 4003 ∧ F ≤ N := by omega
  have HPD := Lib.hid hpd
  have z0 : ((m : Int) == 0) = false := by simp; omega
  have f1 : (m : Int) + 1 = (n : Int) := by omega
  have f2 : (n : Int) * (W : Int) = (R : Int) := by rw [hR, Nat.mul_comm W n]; exact (Int.natCast_mul _ _).symm
  have w1 : IntKind.i64.wrap (W : Int) = W := IntWalk.i64_in _ (by omega)
  have w2 : IntKind.i64.wrap (n : Int) = n := IntWalk.i64_in _ (by omega)
  have w3 : IntKind.i64.wrap (R : Int) = R := IntWalk.i64_in _ (by omega)
  clear hr hn hA hR hup hbd hfirst hd hs hp hW hF hpd
  go_enter Tryd.func25, Tryd.ntmps25
  go_wp2_with fail
  refine HR.out.mono ?_
  rintro e w4 ⟨rfl, hp4, hg4⟩
  have s5 := hp4.buf
  have HP4 := Lib.hid hp4
  have HB4 := Lib.hid (show Below B w w4 from (Below.refl _ _).grown hg4 hBw (fun g hg => by cases hg; exact hBp))
  have HD4 := Lib.hid (HD.out.kept hg4 (.inr (fun e => HPD.out (by simp [Value.ownBlock] at e; exact e.symm))))
  clear hp4 hg4
  go_wp2
  go_loopw [9, 10, 36] (fun bb pv i wr => ∃ k : Nat, k ≤ n ∧ i = .int .i64 k ∧ (∃ a, bb = .slice (some a) (R - W * k) (c - 3 - W * k) ∧ (k < n → a = ⟨g, 3 + W * k, none⟩)) ∧ (∃ P : Int, pv = .int .u32 P ∧ 0 ≤ P ∧ (0 < k → P = pl.getD (k - 1) 0 - 1)) ∧
      wr.ownsRow B 32 1 (.slice (some ⟨db, 0, none⟩) n n) n (vals .u32 (half (pl.map fun a => F + a - 1) k)) ∧ (∃ bf, Par wr pb sb F N bf) ∧ Below B w wr) (fun _ _ i _ => n - (intOf i).toNat)
  case atStart =>
    refine ⟨0, Nat.zero_le _, rfl, ⟨_, rfl, fun _ => rfl⟩, ⟨0, rfl, by omega, fun h => absurd h (by omega)⟩, ?_, ⟨_, HP4.out⟩, HB4.out⟩
    rw [half_none, List.length_map, ← HN.out]
    exact HD4.out
  case round =>
    obtain ⟨k, hk, rfl, ⟨a, rfl, ha⟩, ⟨P, rfl, hP0, hP⟩, hown, ⟨bf, hpar⟩, hbel⟩ := hrel
    by_cases hlt : k < n
    · obtain rfl := ha hlt
      obtain ⟨x, hx⟩ : ∃ x, x = pl.getD k 0 := ⟨_, rfl⟩
      have hlk : k < pl.length := by rw [← HN.out]; exact hlt
      have hxb := HBD.out k hlt
      rw [← hx] at hxb
      have hAk := wid_cell hWb (At.below HA.out hbel hgB) k hlk
      rw [← hx] at hAk
      have hTk : W * k + W ≤ R := by
        rw [HRR.out, show W * k + W = W * (k + 1) by rw [Nat.mul_add, Nat.mul_one]]
        exact Nat.mul_le_mul_left _ (by omega)
      have hlast : k + 1 < n → W * k + W + W ≤ R := fun h => by
        rw [HRR.out, show W * k + W + W = W * (k + 2) by rw [Nat.mul_add]; omega]
        exact Nat.mul_le_mul_left _ (by omega)
      have hT1 : W * (k + 1) = W * k + W := by rw [Nat.mul_add, Nat.mul_one]
      have hcall := be_any g (3 + W * k) (c - 3 - W * k) W x wr HW.out ⟨by omega, hxb.2.1⟩ hAk
      obtain ⟨T, hT⟩ : ∃ T, T = W * k := ⟨_, rfl⟩
      rw [← hT] at hcall hTk hT1 hlast ⊢
      have HLAST := Lib.hid hlast
      clear hlast
      have HC := Lib.hid hcall
      have HT1 := Lib.hid hT1
      have hPx : (k = 0 → x = 1) ∧ (0 < k → P < x - 1) := by
        refine ⟨fun h0 => by rw [hx, h0]; exact HF1.out, fun h0 => ?_⟩
        have := HUP.out k h0 hlt
        rw [hP h0, hx]
        omega
      have hml : k < (pl.map fun a => F + a - 1).length := by rw [List.length_map]; exact hlk
      have hmx : (pl.map fun a => F + a - 1).getD k 0 = F + (x - 1) := by
        rw [hx, List.getD_eq_getElem?_getD, List.getD_eq_getElem?_getD, List.getElem?_map, List.getElem?_eq_getElem hlk]
        simp only [Option.map_some, Option.getD_some]
        omega
      have hlen : (vals .u32 (half (pl.map fun a => F + a - 1) k)).length = n := by rw [vals_len, half_len _ _ (by omega), List.length_map, ← HN.out]
      have c2 := hown.cellAt k (by omega)
      obtain ⟨y, hy⟩ : ∃ y, (vals .u32 (half (pl.map fun a => F + a - 1) k))[k]? = some y := ⟨_, List.getElem?_eq_getElem (by omega)⟩
      rw [hy] at c2
      have f3 := hown.frozenAt k
      have hst := hown.stored k (.int .u32 (F + (x - 1)))
      have e3 : (vals .u32 (half (pl.map fun a => F + a - 1) k)).set k (.int .u32 (F + (x - 1))) = vals .u32 (half (pl.map fun a => F + a - 1) (k + 1)) := by
        rw [← half_set _ k hml, hmx, vals, vals, List.map_set]
      rw [e3] at hst
      have HST := Lib.hid hst
      have HB := Lib.hid hbel
      have HPAR := Lib.hid hpar
      have c0 := hpar.at_
      have c1 := hpar.end_
      have hxp : 0 < x := by omega
      have u1 : IntKind.u32.wrap (x - 1) = x - 1 := IntWalk.u32_in _ (by omega)
      have u2 : IntKind.i64.wrap ((N : Int) - F) = (N : Int) - F := IntWalk.i64_in _ (by omega)
      have u3 : IntKind.u32.wrap ((N : Int) - F) = (N : Int) - F := IntWalk.u32_in _ (by omega)
      have u4 : IntKind.u32.wrap F = F := IntWalk.u32_in _ (by omega)
      have u5 : IntKind.u32.wrap (F + (x - 1)) = F + (x - 1) := IntWalk.u32_in _ (by omega)
      have zx : (x == 0) = false := by simp; omega
      have q1 : ¬ ((N : Int) - F < x - 1) := by omega
      have q2 : W ≤ c - 3 - T := by omega
      have q3 : W ≤ R - T := by omega
      have q4 : R - T - W = R - (T + W) := by omega
      have q5 : c - 3 - T - W = c - 3 - (T + W) := by omega
      have HX := Lib.hid hx
      have hW2 : 2 ≤ W := by have := HW.out; omega
      have hBr : B ≤ wr.heap.size := Nat.le_trans hBw hbel.size
      clear hst hbel hown hx e3 hy hlen hcall hmx hml hlk hT hP ha hAk hpar hT1
      by_cases hk0 : k = 0
      · have hx1 := hPx.1 hk0
        subst hk0
        subst hx1
        rw [show F + (1 - 1) = F by omega] at HST
        clear hPx
        go_wp2_with fail
        refine HC.out.mono ?_
        rintro e w5 ⟨rfl, rfl⟩
        by_cases hcc : c - 3 - T = W
        · go_wp2_with fail
          go_region_held3 (fun w' => w'.cell? ⟨pb, 2, none⟩ = some (.int .i64 F) ∧ w'.cell? ⟨pb, 3, none⟩ = some (.int .i64 N)) (exact ⟨c0, c1⟩) (fail)
          go_wp2
          refine ⟨⟨0 + 1, by omega, by go_num, ⟨⟨g, 3 + T, none⟩, by rw [HT1.out, show c - 3 - (T + W) = 0 by omega], fun h => absurd (HLAST.out h) (by omega)⟩, ⟨_, rfl, by omega, fun _ => by rw [show 0 + 1 - 1 = 0 from rfl, HF1.out]; rfl⟩, HST.out.1.drew.drew, ⟨_, (HPAR.out.grown HST.out.2 (fun e => HPD.out (by injection e))).drew.drew⟩, (HB.out.grown HST.out.2 hBr (fun g hg => by cases hg; exact hBd)).drew.drew⟩, by simp [intOf]; omega⟩
        · go_wp2_with fail
          go_region_held3 (fun w' => w'.cell? ⟨pb, 2, none⟩ = some (.int .i64 F) ∧ w'.cell? ⟨pb, 3, none⟩ = some (.int .i64 N)) (exact ⟨c0, c1⟩) (fail)
          go_wp2
          refine ⟨⟨0 + 1, by omega, by go_num, ⟨⟨g, 3 + T + W, none⟩, by rw [HT1.out], fun _ => by rw [HT1.out, Nat.add_assoc]⟩, ⟨_, rfl, by omega, fun _ => by rw [show 0 + 1 - 1 = 0 from rfl, HF1.out]; rfl⟩, HST.out.1.drew.drew, ⟨_, (HPAR.out.grown HST.out.2 (fun e => HPD.out (by injection e))).drew.drew⟩, (HB.out.grown HST.out.2 hBr (fun g hg => by cases hg; exact hBd)).drew.drew⟩, by simp [intOf]; omega⟩
      · have hk1 : ((k : Int) == 0) = false := by simp; omega
        have hP1 : ¬ (x - 1 ≤ P) := by have := hPx.2 (by omega); omega
        clear hPx
        go_wp2_with fail
        refine HC.out.mono ?_
        rintro e w5 ⟨rfl, rfl⟩
        by_cases hcc : c - 3 - T = W
        · go_wp2_with fail
          go_region_held3 (fun w' => w'.cell? ⟨pb, 2, none⟩ = some (.int .i64 F) ∧ w'.cell? ⟨pb, 3, none⟩ = some (.int .i64 N)) (exact ⟨c0, c1⟩) (fail)
          go_wp2
          refine ⟨⟨k + 1, by omega, by go_num, ⟨⟨g, 3 + T, none⟩, by rw [HT1.out, show c - 3 - (T + W) = 0 by omega], fun h => absurd (HLAST.out h) (by omega)⟩, ⟨_, rfl, by omega, fun _ => by rw [HX.out]; rfl⟩, HST.out.1.drew.drew, ⟨_, (HPAR.out.grown HST.out.2 (fun e => HPD.out (by injection e))).drew.drew⟩, (HB.out.grown HST.out.2 hBr (fun g hg => by cases hg; exact hBd)).drew.drew⟩, by simp [intOf]; omega⟩
        · go_wp2_with fail
          go_region_held3 (fun w' => w'.cell? ⟨pb, 2, none⟩ = some (.int .i64 F) ∧ w'.cell? ⟨pb, 3, none⟩ = some (.int .i64 N)) (exact ⟨c0, c1⟩) (fail)
          go_wp2
          refine ⟨⟨k + 1, by omega, by go_num, ⟨⟨g, 3 + T + W, none⟩, by rw [HT1.out], fun _ => by rw [HT1.out, Nat.add_assoc]⟩, ⟨_, rfl, by omega, fun _ => by rw [HX.out]; rfl⟩, HST.out.1.drew.drew, ⟨_, (HPAR.out.grown HST.out.2 (fun e => HPD.out (by injection e))).drew.drew⟩, (HB.out.grown HST.out.2 hBr (fun g hg => by cases hg; exact hBd)).drew.drew⟩, by simp [intOf]; omega⟩
    · have hkn : k = n := by omega
      subst hkn
      have hpl : (pl.map fun a => F + a - 1).length = k := by rw [List.length_map, ← HN.out]
      rw [← hpl, half_all, hpl] at hown
      have hA1 : At wr db 0 (vals .u32 (pl.map fun a => F + a - 1)) := At.of_own hown
      have hdb : db < wr.heap.size := (hown.lt db rfl).2
      have HA1 := Lib.hid hA1
      have HB := Lib.hid hbel
      have c4 := hpar.err
      clear hown hbel hA1 hpl hP ha hpar
      go_wp2
      go_ret
      exact ⟨rfl, HA1.out, hdb, HB.out⟩
end Go.Proofs.YtofidkkihkgagaaDoor.CffC
