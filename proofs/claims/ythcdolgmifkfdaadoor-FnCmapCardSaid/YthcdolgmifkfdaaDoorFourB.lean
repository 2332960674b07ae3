/- Contracts of numbers of four bytes: the reference's bytes of one, the package's reading of one, and the copy of a slice of such numbers. -/
import Derived.Test.YthcdolgmifkfdaaDoorView
import Derived.Test.YthcdolgmifkfdaaDoorAppZ
namespace Go.Proofs.YthcdolgmifkfdaaDoor.FourB
open Go.ChangeShapes Go.WideShapes Go.ChangeAt Go.RowKit
open Lst Mem SpecB SfntB View

theorem at_behind {w w1 : World} {b off : Nat} {xs : List Value} (hb : Below w.heap.size w w1) (h : At w b off xs) : At w1 b off xs := h.keep hb
def four (v : Int) : List Int := [hi (v / 65536), lo (v / 65536), hi v, lo v]
theorem four_val (v : Int) (h0 : 0 ≤ v) (h1 : v < 4294967296) : hi (v / 65536) * 16777216 + lo (v / 65536) * 65536 + hi v * 256 + lo v = v := by
  unfold hi lo; omega
def fours (l : List Int) : List Int := l.flatMap four
theorem fours_snoc (l : List Int) (x : Int) : fours (l ++ [x]) = fours l ++ four x := by simp [fours]
theorem fours_len (l : List Int) : (fours l).length = 4 * l.length := by
  induction l with
  | nil => rfl
  | cons x l ih =>
    have : fours (x :: l) = four x ++ fours l := by simp [fours]
    rw [this, List.length_append, ih]
    simp [four]
    omega
theorem fours_at (ls : List Int) (k j : Nat) (h : k < ls.length) (hj : j < 4) : (fours ls)[4 * k + j]? = (four (ls.getD k 0))[j]? := by
  induction ls generalizing k with
  | nil => simp at h
  | cons x l ih =>
    have e : fours (x :: l) = four x ++ fours l := by simp [fours]
    have l4 : (four x).length = 4 := rfl
    rw [e]
    cases k with
    | zero => rw [List.getElem?_append_left (by omega)]; simp
    | succ k =>
      rw [List.getElem?_append_right (by omega), l4, show 4 * (k + 1) + j - 4 = 4 * k + j by omega, ih k (by simpa using h)]
      simp
theorem words_at (ls : List Int) (k j : Nat) (h : k < ls.length) (hj : j < 2) : (words ls)[2 * k + j]? = [hi (ls.getD k 0), lo (ls.getD k 0)][j]? := by
  induction ls generalizing k with
  | nil => simp at h
  | cons x l ih =>
    have e : words (x :: l) = [hi x, lo x] ++ words l := by simp [words]
    have l2 : ([hi x, lo x] : List Int).length = 2 := rfl
    rw [e]
    cases k with
    | zero => rw [List.getElem?_append_left (by omega)]; simp
    | succ k =>
      rw [List.getElem?_append_right (by omega), l2, show 2 * (k + 1) + j - 2 = 2 * k + j by omega, ih k (by simpa using h)]
      simp
/-- the first numbers of a list, the others nought -/
def half (ls : List Int) (k : Nat) : List Int := ls.take k ++ List.replicate (ls.length - k) 0
theorem half_len (ls : List Int) (k : Nat) (h : k ≤ ls.length) : (half ls k).length = ls.length := by
  rw [half, List.length_append, List.length_take, List.length_replicate]; omega
theorem half_none (ls : List Int) : half ls 0 = List.replicate ls.length 0 := by simp [half]
theorem half_all (ls : List Int) : half ls ls.length = ls := by simp [half]
theorem half_set (ls : List Int) (k : Nat) (h : k < ls.length) : (half ls k).set k (ls.getD k 0) = half ls (k + 1) := by
  unfold half
  rw [List.set_append_right _ _ (by simp; omega)]
  have e : ls.length - k = (ls.length - (k + 1)) + 1 := by omega
  have e2 : k - (ls.take k).length = 0 := by simp; omega
  rw [e2, e, List.replicate_succ, List.set_cons_zero, take_snoc ls k h]
  simp
theorem hi_bd (v : Int) : 0 ≤ hi v ∧ hi v ≤ 255 := by unfold hi; omega
theorem lo_bd (v : Int) : 0 ≤ lo v ∧ lo v ≤ 255 := by unfold lo; omega

set_option maxHeartbeats 800000 in
theorem four_any (v : Int) (w : World) : Calls Tryd.prog 12 #[.int .i64 v] w (Made w.heap.size (four v) w) := by
  obtain ⟨i0, hi0, hz0, hz1, hz2⟩ := info_parts u8info
  go_enter Tryd.func12, Tryd.ntmps12
  go_wp2_with fail
  refine (two_at _ _).mono ?_
  rintro e w1 ⟨rfl, rfl⟩
  go_wp2_with fail
  refine (two_at _ _).mono ?_
  rintro e w1 ⟨rfl, rfl⟩
  have HO := Lib.hid ((World.ownsRow_lit (base := w.heap.size) (e := 5) (size := 1) w #[.int .u8 (hi (v / 65536)), .int .u8 (lo (v / 65536))] 2 (Nat.le_refl _) (by decide) rfl).alloc (.cells #[.int .u8 (hi v), .int .u8 (lo v)] 5))
  go_wp2_with (at_builtin; refine app_any rfl _ _ 25 rfl w.heap.size 5 i0 (.int .u8 0) 1 Tryd.underlying25 hi0 hz0 hz1 hz2 rfl _ _ _ rfl HO.out (some ⟨w.heap.size + 1, 0, none⟩) 2 2 (vals .u8 [hi v, lo v]) rfl ?c1 (vals_one _ _) ?c3 ?c4 ?c5 ?_)
  case c1 =>
    refine ⟨rfl, fun ad e j u hj => ?_, fun h => by cases h⟩
    cases e
    match j, hj with
    | 0, hj => simp [vals] at hj; subst hj; simp [Addr.add]
    | 1, hj => simp [vals] at hj; subst hj; simp [Addr.add]
  case c3 => decide
  case c4 => decide
  case c5 => simp; omega
  intro v3 w3 hown3 hgrow3 hnil3
  have hb3 : Below w.heap.size w w3 := (((Below.refl _ _).alloc (Nat.le_refl _) _).alloc (by simp) _).grown hgrow3 (by simp; omega) (fun g hg => by simp [Value.ownBlock] at hg; omega)
  have hn3 : v3 ≠ .slice none 0 0 := fun h => by first | exact hnil3 h | simpa using hnil3.1 h
  go_wp2
  go_ret
  exact ⟨v3, rfl, hown3, hn3, hb3⟩


theorem or_u32 (i : Nat) (x y : Int) (hx : 0 ≤ x ∧ x < 4294967296) (hd : x % 2 ^ i = 0) (hy : 0 ≤ y) (hy1 : y < 2 ^ i) (hi : (2 : Int) ^ i ≤ 4294967296) : bits .or .u32 x y = x + y := by
  have e32 : (2 : Int) ^ 32 = 4294967296 := by decide
  refine bits_join .u32 32 (by decide) (fun n a b => ?_) i x y hx.1 hd (by rw [e32]; omega) hy hy1 (by rw [e32]; omega)
  rw [e32] at b
  exact IntWalk.u32_in _ (by omega)

set_option maxHeartbeats 800000 in
theorem u32_any (b off n c : Nat) (x y z u : Int) (w : World) (hn : 4 ≤ n) (hx : 0 ≤ x ∧ x ≤ 255) (hy : 0 ≤ y ∧ y ≤ 255) (hz : 0 ≤ z ∧ z ≤ 255) (hu : 0 ≤ u ∧ u ≤ 255)
    (h0 : w.cell? ⟨b, off, none⟩ = some (.int .u8 x)) (h1 : w.cell? ⟨b, off + 1, none⟩ = some (.int .u8 y)) (h2 : w.cell? ⟨b, off + 2, none⟩ = some (.int .u8 z)) (h3 : w.cell? ⟨b, off + 3, none⟩ = some (.int .u8 u)) :
    Calls Tryd.prog 31 #[.slice (some ⟨b, off, none⟩) n c] w fun e w' => e = .returned (.int .u32 (x * 16777216 + y * 65536 + z * 256 + u)) ∧ w.drew = w' := by
  have k0 : 0 < n := by omega
  have k1 : (1 : Int) < (n : Int) := by omega
  have k2 : (2 : Int) < (n : Int) := by omega
  have k3 : (3 : Int) < (n : Int) := by omega
  have e1 : IntKind.u32.wrap (x * 16777216) = x * 16777216 := IntWalk.u32_in _ (by omega)
  have e2 : IntKind.u32.wrap (y * 65536) = y * 65536 := IntWalk.u32_in _ (by omega)
  have e3 : IntKind.u32.wrap (z * 256) = z * 256 := IntWalk.u32_in _ (by omega)
  have e4 : IntKind.u32.wrap x = x := IntWalk.u32_in _ (by omega)
  have e5 : IntKind.u32.wrap y = y := IntWalk.u32_in _ (by omega)
  have e6 : IntKind.u32.wrap z = z := IntWalk.u32_in _ (by omega)
  have e7 : IntKind.u32.wrap u = u := IntWalk.u32_in _ (by omega)
  have p24 : (2 : Int) ^ 24 = 16777216 := by decide
  have p16 : (2 : Int) ^ 16 = 65536 := by decide
  have p8 : (2 : Int) ^ 8 = 256 := by decide
  have b1 := or_u32 24 (x * 16777216) (y * 65536) (by omega) (by rw [p24]; omega) (by omega) (by rw [p24]; omega) (by rw [p24]; omega)
  have b2 := or_u32 16 (x * 16777216 + y * 65536) (z * 256) (by omega) (by rw [p16]; omega) (by omega) (by rw [p16]; omega) (by rw [p16]; omega)
  have b3 := or_u32 8 (x * 16777216 + y * 65536 + z * 256) u (by omega) (by rw [p8]; omega) (by omega) (by rw [p8]; omega) (by rw [p8]; omega)
  clear p24 p16 p8
  go_enter Tryd.func31, Tryd.ntmps31
  go_wp2
  go_region_held3 (fun w' => w'.cell? ⟨b, off, none⟩ = some (.int .u8 x) ∧ w'.cell? ⟨b, off + 1, none⟩ = some (.int .u8 y) ∧ w'.cell? ⟨b, off + 2, none⟩ = some (.int .u8 z) ∧ w'.cell? ⟨b, off + 3, none⟩ = some (.int .u8 u))
    (exact ⟨h0, h1, h2, h3⟩) (fail)
  go_wp2
  go_ret
  exact ⟨rfl, rfl⟩

end Go.Proofs.YthcdolgmifkfdaaDoor.FourB
