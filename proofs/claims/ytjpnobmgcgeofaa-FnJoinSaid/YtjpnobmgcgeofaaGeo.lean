/- Contracts of the thin package's conversions of points and boxes, and of the statements' 'box': each hands back the same numbers; nothing that was there is written ('Below'). -/
import Derived.Test.YtjpnobmgcgeofaaNums
import Derived.Test.YtjpnobmgcgeofaaRows
import Derived.WalkKit
import Derived.ProofKit
import Derived.OpenShut
import Derived.Lib.Hide
import Derived.Deep.RegionHeld3
import Derived.Deep.Quiet
namespace Go.Proofs.Ytjpnobmgcgeofaa.Geo
open Go.ChangeShapes Go.WideShapes Go.ChangeAt Go.RowKit

theorem bcell {W w1 : World} (hb : Below W.heap.size W w1) : (∀ b o, b < W.heap.size → w1.cell? ⟨b, o, none⟩ = W.cell? ⟨b, o, none⟩) ∧ (∀ b o, b < W.heap.size → w1.frozen? ⟨b, o, none⟩ = W.frozen? ⟨b, o, none⟩) :=
  ⟨fun b o h => hb.cell (p := ⟨b, o, none⟩) h, fun b o h => hb.frozen (p := ⟨b, o, none⟩) h⟩

theorem bel_drewN {B : Nat} {w w' : World} (h : Below B w w') (n : Nat) : Below B w (w'.drewN n) := h.trans ⟨rfl, rfl, rfl, Nat.le_refl _, fun _ _ => rfl⟩
theorem bel_alloc {w w' : World} (h : Below w.heap.size w w') (o : Obj) : Below w.heap.size w (w'.alloc o) := h.alloc h.size o

theorem box_at (a b c d : Int) (w : World) (ha : -32768 ≤ a ∧ a ≤ 32767) (hb : -32768 ≤ b ∧ b ≤ 32767) (hc : -32768 ≤ c ∧ c ≤ 32767) (hd : -32768 ≤ d ∧ d ≤ 32767) :
    Calls Try.prog 14 #[.int .i16 a, .int .i16 b, .int .i16 c, .int .i16 d] w fun e w' => e = .returned (.agg #[.int .i64 a, .int .i64 b, .int .i64 c, .int .i64 d]) ∧ w.alloc (Obj.cells #[.int .i64 a, .int .i64 b, .int .i64 c, .int .i64 d] 31) = w' := by
  go_enter Try.func14, Try.ntmps14
  go_wp2
  exact bodyPost_ret (v := .agg #[.int .i64 a, .int .i64 b, .int .i64 c, .int .i64 d]) (by simp [results, Try.results14, go_sem]) rfl ⟨rfl, rfl⟩
theorem box_any (a b c d : Int) (w : World) (ha : -32768 ≤ a ∧ a ≤ 32767) (hb : -32768 ≤ b ∧ b ≤ 32767) (hc : -32768 ≤ c ∧ c ≤ 32767) (hd : -32768 ≤ d ∧ d ≤ 32767) :
    Calls Try.prog 14 #[.int .i16 a, .int .i16 b, .int .i16 c, .int .i16 d] w fun e w' => e = .returned (.agg #[.int .i64 a, .int .i64 b, .int .i64 c, .int .i64 d]) ∧ Below w.heap.size w w' :=
  (box_at a b c d w ha hb hc hd).mono fun _ _ ⟨he, hw⟩ => ⟨he, hw ▸ bel_alloc (Below.refl _ _) _⟩

/-- the world behind 'pointTo': two boxes more -/
def afterTo (a b : Int) (w : World) : World := (w.alloc (Obj.cells #[.int .i64 a, .int .i64 b] 27)).alloc (Obj.cells #[.int .i32 a, .int .i32 b] 50)
theorem pointTo_at (a b : Int) (w : World) (ha : -2147483648 ≤ a ∧ a ≤ 2147483647) (hb : -2147483648 ≤ b ∧ b ≤ 2147483647) :
    Calls Try.prog 27 #[.agg #[.int .i64 a, .int .i64 b]] w fun e w' => e = .returned (.agg #[.int .i32 a, .int .i32 b]) ∧ (w.alloc (Obj.cells #[.int .i64 a, .int .i64 b] 27)).alloc (Obj.cells #[.int .i32 a, .int .i32 b] 50) = w' := by
  go_enter Try.func27, Try.ntmps27
  go_wp2
  exact bodyPost_ret (v := .agg #[.int .i32 a, .int .i32 b]) (by simp [results, Try.results27, go_sem]) rfl ⟨rfl, rfl⟩

theorem pointTo_any (a b : Int) (w : World) (ha : -2147483648 ≤ a ∧ a ≤ 2147483647) (hb : -2147483648 ≤ b ∧ b ≤ 2147483647) :
    Calls Try.prog 27 #[.agg #[.int .i64 a, .int .i64 b]] w fun e w' => e = .returned (.agg #[.int .i32 a, .int .i32 b]) ∧ Below w.heap.size w w' :=
  (pointTo_at a b w ha hb).mono fun _ _ ⟨he, hw⟩ => ⟨he, hw ▸ bel_alloc (bel_alloc (Below.refl _ _) _) _⟩

theorem keep_alloc {W : World} {p : Addr} {v : Value} {o : Obj} (h : W.cell? p = some v) : (W.alloc o).cell? p = some v := by
  rw [World.cell?_alloc_lt _ _ _ (World.block_lt_of_cell? W p h)]; exact h
theorem keep_cell {W w1 : World} {B : Nat} (hb : Below B W w1) (hB : W.heap.size = B) {p : Addr} {v : Value} (h : W.cell? p = some v) : w1.cell? p = some v := by
  subst hB
  rw [hb.cell (World.block_lt_of_cell? W p h)]; exact h

theorem boxTo_at (a b c d : Int) (w : World) (ba : -2147483648 ≤ a ∧ a ≤ 2147483647) (bb : -2147483648 ≤ b ∧ b ≤ 2147483647) (bc : -2147483648 ≤ c ∧ c ≤ 2147483647) (bd : -2147483648 ≤ d ∧ d ≤ 2147483647) :
    Calls Try.prog 30 #[.agg #[.int .i64 a, .int .i64 b, .int .i64 c, .int .i64 d]] w fun e w' => e = .returned (.agg #[.int .i32 a, .int .i32 b, .int .i32 c, .int .i32 d]) ∧
      ((((((w.alloc (Obj.cells #[.int .i64 a, .int .i64 b, .int .i64 c, .int .i64 d] 31)).alloc (Obj.cells #[.int .i32 a, .int .i32 b, .int .i32 c, .int .i32 d] 54)).alloc (Obj.cells #[.int .i64 a, .int .i64 b] 27)).alloc (Obj.cells #[.int .i32 a, .int .i32 b] 50)).alloc (Obj.cells #[.int .i64 c, .int .i64 d] 27)).alloc (Obj.cells #[.int .i32 c, .int .i32 d] 50)).drew = w' := by
  go_enter Try.func30, Try.ntmps30
  go_wp2
  go_region_held3 (fun w' => w'.cell? ⟨w.heap.size, 0, none⟩ = some (.int .i64 a) ∧ w'.cell? ⟨w.heap.size, 1, none⟩ = some (.int .i64 b) ∧ w'.cell? ⟨w.heap.size, 2, none⟩ = some (.int .i64 c) ∧ w'.cell? ⟨w.heap.size, 3, none⟩ = some (.int .i64 d))
    ((refine ⟨?_, ?_, ?_, ?_⟩ <;> go_simp))
    (first | (go_at_call 27; refine (pointTo_at _ _ _ (by omega) (by omega)).mono ?_; rintro e w' ⟨rfl, rfl⟩))
  go_wp2
  exact bodyPost_ret (v := .agg #[.int .i32 a, .int .i32 b, .int .i32 c, .int .i32 d]) (by simp [results, Try.results30, go_sem]) rfl ⟨rfl, rfl⟩
theorem boxTo_any (a b c d : Int) (w : World) (ba : -2147483648 ≤ a ∧ a ≤ 2147483647) (bb : -2147483648 ≤ b ∧ b ≤ 2147483647) (bc : -2147483648 ≤ c ∧ c ≤ 2147483647) (bd : -2147483648 ≤ d ∧ d ≤ 2147483647) :
    Calls Try.prog 30 #[.agg #[.int .i64 a, .int .i64 b, .int .i64 c, .int .i64 d]] w fun e w' => e = .returned (.agg #[.int .i32 a, .int .i32 b, .int .i32 c, .int .i32 d]) ∧ Below w.heap.size w w' :=
  (boxTo_at a b c d w ba bb bc bd).mono fun _ _ ⟨he, hw⟩ => ⟨he, hw ▸ Below.drew (bel_alloc (bel_alloc (bel_alloc (bel_alloc (bel_alloc (bel_alloc (Below.refl _ _) _) _) _) _) _) _)⟩
theorem bel_trans {w w1 w2 : World} (h : Below w.heap.size w w1) (k : Below w1.heap.size w1 w2) : Below w.heap.size w w2 := h.trans (k.mono h.size)

/-- a box has no place -/
def emptyB (a b c d : Int) : Bool := decide (c ≤ a) || decide (d ≤ b)
theorem rectEmpty_at (a b c d : Int) (w : World) :
    Calls Try.prog 38 #[.agg #[.int .i32 a, .int .i32 b, .int .i32 c, .int .i32 d]] w fun e w' => e = .returned (.bool (emptyB a b c d)) ∧ w.alloc (Obj.cells #[.int .i32 a, .int .i32 b, .int .i32 c, .int .i32 d] 54) = w' := by
  have H := Lib.hid (show emptyB a b c d = (decide (c ≤ a) || decide (d ≤ b)) from rfl)
  by_cases h1 : c ≤ a
  · go_enter Try.func38, Try.ntmps38
    go_wp2
    go_ret
    exact ⟨Nums.ret_bool (by rw [H.out]; simp [h1]), rfl⟩
  · by_cases h2 : d ≤ b
    · go_enter Try.func38, Try.ntmps38
      go_wp2
      go_ret
      exact ⟨Nums.ret_bool (by rw [H.out]; simp [h2]), rfl⟩
    · go_enter Try.func38, Try.ntmps38
      go_wp2
      go_ret
      exact ⟨Nums.ret_bool (by rw [H.out]; simp [h1, h2]), rfl⟩
theorem rectEmpty_any (a b c d : Int) (w : World) :
    Calls Try.prog 38 #[.agg #[.int .i32 a, .int .i32 b, .int .i32 c, .int .i32 d]] w fun e w' => e = .returned (.bool (emptyB a b c d)) ∧ Below w.heap.size w w' :=
  (rectEmpty_at a b c d w).mono fun _ _ ⟨he, hw⟩ => ⟨he, hw ▸ bel_alloc (Below.refl _ _) _⟩

theorem empty_any (a b c d : Int) (w : World) (ba : -2147483648 ≤ a ∧ a ≤ 2147483647) (bb : -2147483648 ≤ b ∧ b ≤ 2147483647) (bc : -2147483648 ≤ c ∧ c ≤ 2147483647) (bd : -2147483648 ≤ d ∧ d ≤ 2147483647) :
    Calls Try.prog 24 #[.agg #[.int .i64 a, .int .i64 b, .int .i64 c, .int .i64 d]] w fun e w' => e = .returned (.bool (emptyB a b c d)) ∧ Below w.heap.size w w' := by
  go_enter Try.func24, Try.ntmps24
  go_wp2_with (first | (go_at_call 30; refine (boxTo_any _ _ _ _ _ ba bb bc bd).mono ?_; rintro e w1 ⟨rfl, h1⟩) | (go_at_call 38; refine (rectEmpty_any _ _ _ _ _).mono ?_; rintro e w2 ⟨rfl, h2⟩))
  go_ret
  exact ⟨rfl, bel_trans (bel_trans (bel_alloc (Below.refl _ _) _) h1) h2⟩
/-- a place is in a box -/
def inB (x y a b c d : Int) : Bool := decide (a ≤ x) && decide (x < c) && decide (b ≤ y) && decide (y < d)
theorem inB_yes {x y a b c d : Int} (h : a ≤ x ∧ x < c ∧ b ≤ y ∧ y < d) : inB x y a b c d = true := by simp [inB, h.1, h.2.1, h.2.2.1, h.2.2.2]
theorem inB_no {x y a b c d : Int} (h : ¬ (a ≤ x ∧ x < c ∧ b ≤ y ∧ y < d)) : inB x y a b c d = false := by
  simp only [inB, Bool.and_eq_false_iff, decide_eq_false_iff_not]
  omega

theorem has_any (x y a b c d : Int) (w : World) :
    Calls Try.prog 22 #[.agg #[.int .i64 a, .int .i64 b, .int .i64 c, .int .i64 d], .int .i64 x, .int .i64 y] w fun e w' => e = .returned (.bool (inB x y a b c d)) ∧ Below w.heap.size w w' := by
  have H := Lib.hid (show inB x y a b c d = (decide (a ≤ x) && decide (x < c) && decide (b ≤ y) && decide (y < d)) from rfl)
  by_cases h1 : a ≤ x
  · by_cases h2 : x < c
    · by_cases h3 : b ≤ y
      · by_cases h4 : y < d
        · go_enter Try.func22, Try.ntmps22
          go_wp2
          go_ret
          exact ⟨Nums.ret_bool (inB_yes ⟨h1, h2, h3, h4⟩).symm, bel_alloc (Below.refl _ _) _⟩
        · go_enter Try.func22, Try.ntmps22
          go_wp2
          go_ret
          exact ⟨Nums.ret_bool (inB_no (by omega)).symm, bel_alloc (Below.refl _ _) _⟩
      · go_enter Try.func22, Try.ntmps22
        go_wp2
        go_ret
        exact ⟨Nums.ret_bool (inB_no (by omega)).symm, bel_alloc (Below.refl _ _) _⟩
    · go_enter Try.func22, Try.ntmps22
      go_wp2
      go_ret
      exact ⟨Nums.ret_bool (inB_no (by omega)).symm, bel_alloc (Below.refl _ _) _⟩
  · go_enter Try.func22, Try.ntmps22
    go_wp2
    go_ret
    exact ⟨Nums.ret_bool (inB_no (by omega)).symm, bel_alloc (Below.refl _ _) _⟩
end Go.Proofs.Ytjpnobmgcgeofaa.Geo
