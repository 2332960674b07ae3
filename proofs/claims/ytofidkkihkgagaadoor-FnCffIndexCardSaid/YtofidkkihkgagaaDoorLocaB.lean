/- Contracts of the reading of glyphs' places: the package, its export, and the thin package over them. -/
import Derived.Test.YtofidkkihkgagaaDoorFourB
namespace Go.Proofs.YtofidkkihkgagaaDoor.LocaB
open Go.ChangeShapes Go.WideShapes Go.ChangeAt Go.RowKit
open Lst Mem SpecB SfntB View FourB

set_option maxHeartbeats 1600000 in
set_option maxRecDepth 3000 in
theorem long_any (sb g n m c : Nat) (P : List Int) (f : Int) (w : World) (hn : n = P.length) (hm : m + 1 = n) (hsz : n ≤ 1000) (hc : 4 * n ≤ c) (hg : g < w.heap.size) (hsb : sb < w.heap.size)
    (hf : 0 ≤ f) (hP : ∀ x ∈ P, 0 ≤ x ∧ x + f < 4294967296) (hs : w.cell? ⟨sb, 0, none⟩ = some (.slice (some ⟨g, 0, none⟩) (4 * n) c)) (hA : At w g 0 (vals .u8 (fours P))) :
    Calls Tryd.prog 23 #[.pointer (some ⟨sb, 0, none⟩), .agg #[.int .u32 0, .int .u32 (4 * (n : Int))], .int .u32 f, .bool true, .int .i32 (m : Int)] w
      fun e w' => (∃ g1, e = .returned (.tuple #[.slice (some ⟨g1, 0, none⟩) n n, .nilIface]) ∧ At w' g1 0 (vals .u32 (P.map (· + f)))) ∧ Below w.heap.size w w' := by
  obtain ⟨i0, hi0, hz0, hz1, hz2⟩ := info_parts u32info
  have HN := Lib.hid hn
  have HA := Lib.hid hA
  have HP := Lib.hid hP
  have HS := Lib.hid hs
  have f1 : (m : Int) + 1 = (n : Int) := by omega
  have w1 : IntKind.u32.wrap (n : Int) = n := IntWalk.u32_in _ (by omega)
  have w2 : IntKind.u32.wrap (4 * (n : Int)) = 4 * (n : Int) := IntWalk.u32_in _ (by omega)
  have w3 : IntKind.i64.wrap (4 * (n : Int)) = 4 * (n : Int) := IntWalk.i64_in _ (by omega)
  clear hn hA hP hs hm
  go_enter Tryd.func23, Tryd.ntmps23
  go_wp2_with (at_make; refine wpList_make_full _ rfl _ _ 35 rfl w.heap.size 32 i0 (.int .u32 0) 1 Tryd.underlying35 hi0 hz0 hz1 .i32 .i32 _ _ n rfl rfl ?c1 ?c2 ?c3 ?c4 ?c5 ?_)
  case c1 => go_simp
  case c2 => go_simp
  case c3 => rw [hz2]; omega
  case c4 => unfold maxLen; omega
  case c5 => simp
  intro w1 hown hgrow
  have hpl : (P.map (· + f)).length = n := by rw [List.length_map, ← HN.out]
  have ho0 : w1.ownsRow w.heap.size 32 1 (.slice (some ⟨w.heap.size + 1, 0, none⟩) n n) n (vals .u32 (half (P.map (· + f)) 0)) := by
    rw [half_none, hpl, vals, List.map_replicate, ← toList_madeCells_one]
    simpa using hown
  have hb0 : Below w.heap.size w w1 := (bel_made w _ _).grown hgrow (by simp) (fun g hg => by cases hg)
  have k1 : w1.cell? ⟨w.heap.size, 1, none⟩ = some (.int .u32 (4 * (n : Int))) := by
    rw [World.cell?_of_block (hgrow.block w.heap.size (by simp) (by simp))]; simp
  have k0 : w1.cell? ⟨w.heap.size, 0, none⟩ = some (.int .u32 0) := by
    rw [World.cell?_of_block (hgrow.block w.heap.size (by simp) (by simp))]; simp
  have ks : w1.cell? ⟨sb, 0, none⟩ = some (.slice (some ⟨g, 0, none⟩) (4 * n) c) := by
    rw [hb0.cell (p := ⟨sb, 0, none⟩) hsb]; exact HS.out
  have e4 : ((4 * n : Nat) : Int) = 4 * (n : Int) := by omega
  have hv := view_any sb 0 g (4 * n) c 0 (4 * n) (.slice none 0 0) w1 ks (by omega) (by omega) hc (by omega)
  rw [e4] at hv
  have HV := Lib.hid hv
  have HO0 := Lib.hid ho0
  have HB0 := Lib.hid hb0
  have HPL := Lib.hid hpl
  clear hown hgrow ho0 hb0 hv ks hpl e4
  go_wp2_with fail
  refine HV.out.mono ?_
  rintro e w2 ⟨rfl, rfl⟩
  go_wp2
  clear k0 k1
  go_loopw [52] (fun i wr => ∃ k : Nat, k ≤ n ∧ i = .int .i64 k ∧ wr.ownsRow w.heap.size 32 1 (.slice (some ⟨w.heap.size + 1, 0, none⟩) n n) n (vals .u32 (half (P.map (· + f)) k)) ∧ Below w.heap.size w wr) (fun i _ => n - (intOf i).toNat)
  case atStart => exact ⟨0, Nat.zero_le _, rfl, HO0.out, HB0.out⟩
  case round =>
    obtain ⟨k, hk, rfl, hown, hbel⟩ := hrel
    by_cases hlt : k < n
    · obtain ⟨x, hx⟩ : ∃ x, x = P.getD k 0 := ⟨_, rfl⟩
      have hlk : k < P.length := by rw [← HN.out]; exact hlt
      have hxb : 0 ≤ x ∧ x + f < 4294967296 := by
        rw [hx, List.getD_eq_getElem?_getD, List.getElem?_eq_getElem hlk]
        exact HP.out _ (List.getElem_mem _)
      have hcell : ∀ j y, (four x)[j]? = some y → j < 4 → wr.cell? ⟨g, 4 * k + j, none⟩ = some (.int .u8 y) := fun j y hy hj => by
        refine (hbel.cell (p := ⟨g, 4 * k + j, none⟩) hg).trans ?_
        have := HA.out (4 * k + j) (.int .u8 y) (by rw [vals_at, fours_at P k j hlk hj, ← hx, hy]; rfl)
        rwa [Nat.zero_add] at this
      have hcall := u32_any g (4 * k) (4 * n - 4 * k) (c - 4 * k) _ _ _ _ wr (by omega) (hi_bd (x / 65536)) (lo_bd (x / 65536)) (hi_bd x) (lo_bd x) (hcell 0 _ rfl (by decide)) (hcell 1 _ rfl (by decide)) (hcell 2 _ rfl (by decide)) (hcell 3 _ rfl (by decide))
      rw [four_val x hxb.1 (by omega)] at hcall
      have HC := Lib.hid hcall
      have hml : k < (P.map (· + f)).length := by rw [HPL.out]; exact hlt
      have hmx : (P.map (· + f)).getD k 0 = x + f := by
        rw [hx, List.getD_eq_getElem?_getD, List.getD_eq_getElem?_getD, List.getElem?_map, List.getElem?_eq_getElem hlk]; rfl
      have hlen : (vals .u32 (half (P.map (· + f)) k)).length = n := by rw [vals_len, half_len _ _ (by omega), HPL.out]
      have c2 := hown.cellAt k (by omega)
      obtain ⟨y, hy⟩ : ∃ y, (vals .u32 (half (P.map (· + f)) k))[k]? = some y := ⟨_, List.getElem?_eq_getElem (by omega)⟩
      rw [hy] at c2
      have f2 := hown.frozenAt k
      have hst := hown.stored k (.int .u32 (x + f))
      have e3 : (vals .u32 (half (P.map (· + f)) k)).set k (.int .u32 (x + f)) = vals .u32 (half (P.map (· + f)) (k + 1)) := by
        rw [← half_set _ k hml, hmx, vals, vals, List.map_set]
      rw [e3] at hst
      have HST := Lib.hid hst
      have HB := Lib.hid hbel
      have u1 : IntKind.u32.wrap x = x := IntWalk.u32_in _ (by omega)
      have u2 : IntKind.u32.wrap (x + f) = x + f := IntWalk.u32_in _ (by omega)
      have q1 : ¬ (c = 4 * k) := by omega
      clear hst hbel hown hx e3 hy hlen hcall hcell hmx hml hlk
      go_wp2_with fail
      refine HC.out.mono ?_
      rintro e w2 ⟨rfl, rfl⟩
      go_wp2
      refine ⟨⟨k + 1, by omega, by go_num, HST.out.1.drew, (HB.out.grown HST.out.2 HB.out.size (fun g hg => by cases hg; simp)).drew⟩, by simp [intOf]; omega⟩
    · have hkn : k = n := by omega
      subst hkn
      have hA1 : At wr (w.heap.size + 1) 0 (vals .u32 (P.map (· + f))) := by
        have := hown
        rw [← HPL.out] at this
        rw [half_all] at this
        exact At.of_own this
      have HB := Lib.hid hbel
      clear hown hbel
      go_wp2
      exact bodyPost_ret (v := .tuple #[.slice (some ⟨w.heap.size + 1, 0, none⟩) k k, .nilIface]) (by simp [results, Tryd.results23, go_sem]) rfl ⟨⟨_, rfl, hA1⟩, HB.out⟩
set_option maxHeartbeats 1600000 in
set_option maxRecDepth 3000 in
theorem short_any (sb g n m c : Nat) (P : List Int) (f : Int) (w : World) (hn : n = P.length) (hm : m + 1 = n) (hsz : n ≤ 1000) (hc : 2 * n ≤ c) (hg : g < w.heap.size) (hsb : sb < w.heap.size)
    (hf : 0 ≤ f) (hP : ∀ x ∈ P, (0 ≤ x ∧ x ≤ 65535) ∧ 2 * x + f < 4294967296) (hs : w.cell? ⟨sb, 0, none⟩ = some (.slice (some ⟨g, 0, none⟩) (2 * n) c)) (hA : At w g 0 (vals .u8 (words P))) :
    Calls Tryd.prog 23 #[.pointer (some ⟨sb, 0, none⟩), .agg #[.int .u32 0, .int .u32 (2 * (n : Int))], .int .u32 f, .bool false, .int .i32 (m : Int)] w
      fun e w' => (∃ g1, e = .returned (.tuple #[.slice (some ⟨g1, 0, none⟩) n n, .nilIface]) ∧ At w' g1 0 (vals .u32 (P.map (2 * · + f)))) ∧ Below w.heap.size w w' := by
  obtain ⟨i0, hi0, hz0, hz1, hz2⟩ := info_parts u32info
  have HN := Lib.hid hn
  have HA := Lib.hid hA
  have HP := Lib.hid hP
  have HS := Lib.hid hs
  have f1 : (m : Int) + 1 = (n : Int) := by omega
  have w1 : IntKind.u32.wrap (n : Int) = n := IntWalk.u32_in _ (by omega)
  have w2 : IntKind.u32.wrap (2 * (n : Int)) = 2 * (n : Int) := IntWalk.u32_in _ (by omega)
  have w3 : IntKind.i64.wrap (2 * (n : Int)) = 2 * (n : Int) := IntWalk.i64_in _ (by omega)
  clear hn hA hP hs hm
  go_enter Tryd.func23, Tryd.ntmps23
  go_wp2_with (at_make; refine wpList_make_full _ rfl _ _ 35 rfl w.heap.size 32 i0 (.int .u32 0) 1 Tryd.underlying35 hi0 hz0 hz1 .i32 .i32 _ _ n rfl rfl ?c1 ?c2 ?c3 ?c4 ?c5 ?_)
  case c1 => go_simp
  case c2 => go_simp
  case c3 => rw [hz2]; omega
  case c4 => unfold maxLen; omega
  case c5 => simp
  intro w1 hown hgrow
  have hpl : (P.map (2 * · + f)).length = n := by rw [List.length_map, ← HN.out]
  have ho0 : w1.ownsRow w.heap.size 32 1 (.slice (some ⟨w.heap.size + 1, 0, none⟩) n n) n (vals .u32 (half (P.map (2 * · + f)) 0)) := by
    rw [half_none, hpl, vals, List.map_replicate, ← toList_madeCells_one]
    simpa using hown
  have hb0 : Below w.heap.size w w1 := (bel_made w _ _).grown hgrow (by simp) (fun g hg => by cases hg)
  have k1 : w1.cell? ⟨w.heap.size, 1, none⟩ = some (.int .u32 (2 * (n : Int))) := by
    rw [World.cell?_of_block (hgrow.block w.heap.size (by simp) (by simp))]; simp
  have k0 : w1.cell? ⟨w.heap.size, 0, none⟩ = some (.int .u32 0) := by
    rw [World.cell?_of_block (hgrow.block w.heap.size (by simp) (by simp))]; simp
  have ks : w1.cell? ⟨sb, 0, none⟩ = some (.slice (some ⟨g, 0, none⟩) (2 * n) c) := by
    rw [hb0.cell (p := ⟨sb, 0, none⟩) hsb]; exact HS.out
  have e4 : ((2 * n : Nat) : Int) = 2 * (n : Int) := by omega
  have hv := view_any sb 0 g (2 * n) c 0 (2 * n) (.slice none 0 0) w1 ks (by omega) (by omega) hc (by omega)
  rw [e4] at hv
  have HV := Lib.hid hv
  have HO0 := Lib.hid ho0
  have HB0 := Lib.hid hb0
  have HPL := Lib.hid hpl
  clear hown hgrow ho0 hb0 hv ks hpl e4
  go_wp2_with fail
  refine HV.out.mono ?_
  rintro e w2 ⟨rfl, rfl⟩
  go_wp2
  clear k0 k1
  go_loopw [69] (fun i wr => ∃ k : Nat, k ≤ n ∧ i = .int .i64 k ∧ wr.ownsRow w.heap.size 32 1 (.slice (some ⟨w.heap.size + 1, 0, none⟩) n n) n (vals .u32 (half (P.map (2 * · + f)) k)) ∧ Below w.heap.size w wr) (fun i _ => n - (intOf i).toNat)
  case atStart => exact ⟨0, Nat.zero_le _, rfl, HO0.out, HB0.out⟩
  case round =>
    obtain ⟨k, hk, rfl, hown, hbel⟩ := hrel
    by_cases hlt : k < n
    · obtain ⟨x, hx⟩ : ∃ x, x = P.getD k 0 := ⟨_, rfl⟩
      have hlk : k < P.length := by rw [← HN.out]; exact hlt
      have hxb : (0 ≤ x ∧ x ≤ 65535) ∧ 2 * x + f < 4294967296 := by
        rw [hx, List.getD_eq_getElem?_getD, List.getElem?_eq_getElem hlk]
        exact HP.out _ (List.getElem_mem _)
      have hcell : ∀ j y, [hi x, lo x][j]? = some y → j < 2 → wr.cell? ⟨g, 2 * k + j, none⟩ = some (.int .u8 y) := fun j y hy hj => by
        refine (hbel.cell (p := ⟨g, 2 * k + j, none⟩) hg).trans ?_
        have := HA.out (2 * k + j) (.int .u8 y) (by rw [vals_at, words_at P k j hlk hj, ← hx, hy]; rfl)
        rwa [Nat.zero_add] at this
      have hcall := u16_any g (2 * k) (2 * n - 2 * k) (c - 2 * k) _ _ wr (by omega) (hi_bd x) (lo_bd x) (hcell 0 _ rfl (by decide)) (hcell 1 _ rfl (by decide))
      rw [show hi x * 256 + lo x = x by unfold hi lo; omega] at hcall
      have HC := Lib.hid hcall
      have hml : k < (P.map (2 * · + f)).length := by rw [HPL.out]; exact hlt
      have hmx : (P.map (2 * · + f)).getD k 0 = 2 * x + f := by
        rw [hx, List.getD_eq_getElem?_getD, List.getD_eq_getElem?_getD, List.getElem?_map, List.getElem?_eq_getElem hlk]; rfl
      have hlen : (vals .u32 (half (P.map (2 * · + f)) k)).length = n := by rw [vals_len, half_len _ _ (by omega), HPL.out]
      have c2 := hown.cellAt k (by omega)
      obtain ⟨y, hy⟩ : ∃ y, (vals .u32 (half (P.map (2 * · + f)) k))[k]? = some y := ⟨_, List.getElem?_eq_getElem (by omega)⟩
      rw [hy] at c2
      have f2 := hown.frozenAt k
      have hst := hown.stored k (.int .u32 (2 * x + f))
      have e3 : (vals .u32 (half (P.map (2 * · + f)) k)).set k (.int .u32 (2 * x + f)) = vals .u32 (half (P.map (2 * · + f)) (k + 1)) := by
        rw [← half_set _ k hml, hmx, vals, vals, List.map_set]
      rw [e3] at hst
      have HST := Lib.hid hst
      have HB := Lib.hid hbel
      have u1 : IntKind.u32.wrap x = x := IntWalk.u32_in _ (by omega)
      have u3 : IntKind.u32.wrap (2 * x) = 2 * x := IntWalk.u32_in _ (by omega)
      have u2 : IntKind.u32.wrap (2 * x + f) = 2 * x + f := IntWalk.u32_in _ (by omega)
      have q1 : ¬ (c = 2 * k) := by omega
      clear hst hbel hown hx e3 hy hlen hcall hcell hmx hml hlk
      go_wp2_with fail
      refine HC.out.mono ?_
      rintro e w2 ⟨rfl, rfl⟩
      go_wp2
      refine ⟨⟨k + 1, by omega, by go_num, HST.out.1.drew, (HB.out.grown HST.out.2 HB.out.size (fun g hg => by cases hg; simp)).drew⟩, by simp [intOf]; omega⟩
    · have hkn : k = n := by omega
      subst hkn
      have hA1 : At wr (w.heap.size + 1) 0 (vals .u32 (P.map (2 * · + f))) := by
        have := hown
        rw [← HPL.out] at this
        rw [half_all] at this
        exact At.of_own this
      have HB := Lib.hid hbel
      clear hown hbel
      go_wp2
      exact bodyPost_ret (v := .tuple #[.slice (some ⟨w.heap.size + 1, 0, none⟩) k k, .nilIface]) (by simp [results, Tryd.results23, go_sem]) rfl ⟨⟨_, rfl, hA1⟩, HB.out⟩
/-- what the reading of places hands back: the places, and no error -/
def Told (L : List Int) (w : World) (e : Ending) (w' : World) : Prop :=
  (∃ g1 cap, e = .returned (.tuple #[.slice (some ⟨g1, 0, none⟩) L.length cap, .nilIface]) ∧ At w' g1 0 (vals .u32 L)) ∧ Below w.heap.size w w'

theorem zz_any (g N c : Nat) (L : List Int) (f m : Int) (long : Bool) (w : World) (hN : N ≤ 1000000)
    (h : ∀ w1 : World, Below w.heap.size w w1 → w1.cell? ⟨w.heap.size, 0, none⟩ = some (.slice (some ⟨g, 0, none⟩) N c) → w.heap.size < w1.heap.size →
      Calls Tryd.prog 23 #[.pointer (some ⟨w.heap.size, 0, none⟩), .agg #[.int .u32 0, .int .u32 (N : Int)], .int .u32 f, .bool long, .int .i32 m] w1 (Told L w1)) :
    Calls Tryd.prog 18 #[.slice (some ⟨g, 0, none⟩) N c, .int .u32 f, .bool long, .int .i32 m] w (Told L w) := by
  have H := Lib.hid h
  have w1 : IntKind.u32.wrap (N : Int) = N := IntWalk.u32_in _ (by omega)
  clear h
  go_enter Tryd.func18, Tryd.ntmps18
  go_wp2_with fail
  refine (H.out _ (bel_made w _ _) (by simp) (by simp)).mono ?_
  rintro e w2 ⟨⟨g1, cap, rfl, hA⟩, hb⟩
  go_wp2
  exact bodyPost_ret (v := .tuple #[.slice (some ⟨g1, 0, none⟩) L.length cap, .nilIface]) (by simp [results, Tryd.results18, go_sem]) rfl ⟨⟨_, _, rfl, hA⟩, (bel_made w _ _).trans (hb.mono (by simp))⟩

set_option maxHeartbeats 800000 in
theorem impl_any (g N c : Nat) (bs L : List Int) (f m : Int) (long : Bool) (w : World) (hbs : N = bs.length) (hN : N ≤ 1000000) (hA : At w g 0 (vals .u8 bs)) (hL : L.length ≤ 1000) (hm : -2147483648 ≤ m ∧ m ≤ 2147483647)
    (h : ∀ (sb g c : Nat) (w1 : World), w1.cell? ⟨sb, 0, none⟩ = some (.slice (some ⟨g, 0, none⟩) N c) → N ≤ c → At w1 g 0 (vals .u8 bs) → sb < w1.heap.size → g < w1.heap.size →
      Calls Tryd.prog 23 #[.pointer (some ⟨sb, 0, none⟩), .agg #[.int .u32 0, .int .u32 (N : Int)], .int .u32 f, .bool long, .int .i32 m] w1 (Told L w1)) :
    Calls Tryd.prog 11 #[.slice (some ⟨g, 0, none⟩) N c, .int .u32 f, .bool long, .int .i64 m] w
      fun e w' => (∃ g1 cap, e = .returned (.tuple #[.slice (some ⟨g1, 0, none⟩) L.length cap, .bool true]) ∧ At w' g1 0 (vals .u32 L) ∧ w.heap.size ≤ g1 ∧ g1 < w'.heap.size) ∧ Below w.heap.size w w' := by
  have hcl := clone_any g 0 c bs w hA (by omega)
  rw [← hbs] at hcl
  have HC := Lib.hid hcl
  have HL := Lib.hid hbs
  have H := Lib.hid h
  have w1 : IntKind.i32.wrap m = m := IntWalk.i32_in _ (by omega)
  clear hcl hbs h hA
  go_enter Tryd.func11, Tryd.ntmps11
  go_wp2_with fail
  refine HC.out.mono ?_
  intro e w1 hm1
  obtain ⟨g1, cap, rfl, hA1, hcap, hg1, hg2, hb1⟩ := made_open hm1
  rw [← HL.out] at hcap ⊢
  have HZ := Lib.hid (zz_any g1 N cap L f m long w1 hN (fun w2 hb hc hs => H.out _ g1 cap w2 hc hcap (hA1.keep hb) hs (by omega)))
  have HB1 := Lib.hid hb1
  clear hA1 hm1 hb1
  go_wp2_with fail
  refine HZ.out.mono ?_
  rintro e w2 ⟨⟨g2, cap2, rfl, hA2⟩, hb2⟩
  have HB2 := Lib.hid (HB1.out.trans (hb2.mono HB1.out.size))
  clear hb2
  go_wp2
  go_region_held3 (fun w' => At w' g2 0 (vals .u32 L)) (first | exact hA2 | (with_reducible refine at_behind (by assumption) (by assumption))) (first | (go_at_call 19; refine (clone4_any g2 0 cap2 L _ (by assumption) (by omega)).mono ?_; rintro e w3 ⟨v, rfl, ho, hn, hb3⟩))
  obtain ⟨g4, cap4, rfl, hA4, hcap4, hg4, hg4'⟩ := own_open ho hn
  have hs := HB2.out.size
  have hB4 : Below w.heap.size w w3 := by
    repeat (first | with_reducible exact HB2.out | with_reducible apply Below.drew | (with_reducible refine Below.trans ?_ (Below.mono (by assumption) (by simp; omega))))
  have HA4 := Lib.hid hA4
  have HB4 := Lib.hid hB4
  have hgg : w.heap.size ≤ g4 := by simp at hg4'; omega
  clear ho hn hB4 hb3 hA4
  go_wp2
  exact bodyPost_ret (v := .tuple #[.slice (some ⟨g4, 0, none⟩) L.length cap4, .bool true]) (by simp [results, Tryd.results11, go_sem]) rfl ⟨⟨g4, cap4, rfl, HA4.out, hgg, hg4⟩, HB4.out⟩
end Go.Proofs.YtofidkkihkgagaaDoor.LocaB
