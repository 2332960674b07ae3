/- Contracts: a place moved and turned by factors of 14 bits behind the point. -/
import Derived.Test.YtjpnobmgcgeofaaGeo2
namespace Go.Proofs.Ytjpnobmgcgeofaa.Tform
open Go.ChangeShapes Go.WideShapes Go.ChangeAt Go.RowKit
open Geo

/-- one number of the turned place -/
def co (d p q : Int) : Int := d + (p + 8192) / 16384 + (q + 8192) / 16384
theorem co_bd {d p q : Int} (hd : -32768 ≤ d ∧ d ≤ 32767) (hp : -4294967296 ≤ p ∧ p ≤ 4294967296) (hq : -4294967296 ≤ q ∧ q ≤ 4294967296) : -2147483648 ≤ co d p q ∧ co d p q ≤ 2147483647 := by
  unfold co
  omega

set_option maxHeartbeats 1000000 in
theorem tform_at (xx xy yx yy dx dy x y : Int) (w : World) (bx : -2147483648 ≤ x ∧ x ≤ 2147483647) (bY : -2147483648 ≤ y ∧ y ≤ 2147483647)
    (c1 : -32768 ≤ xx ∧ xx ≤ 32767) (c2 : -32768 ≤ xy ∧ xy ≤ 32767) (c3 : -32768 ≤ yx ∧ yx ≤ 32767) (c4 : -32768 ≤ yy ∧ yy ≤ 32767) (c5 : -32768 ≤ dx ∧ dx ≤ 32767) (c6 : -32768 ≤ dy ∧ dy ≤ 32767)
    (h1 : -4294967296 ≤ x * xx ∧ x * xx ≤ 4294967296) (h2 : -4294967296 ≤ y * yx ∧ y * yx ≤ 4294967296) (h3 : -4294967296 ≤ x * xy ∧ x * xy ≤ 4294967296) (h4 : -4294967296 ≤ y * yy ∧ y * yy ≤ 4294967296) :
    Calls Try.prog 40 #[.int .i16 xx, .int .i16 xy, .int .i16 yx, .int .i16 yy, .int .i32 dx, .int .i32 dy, .agg #[.int .i32 x, .int .i32 y]] w fun e w' => e = .returned (.agg #[.int .i32 (co dx (x * xx) (y * yx)), .int .i32 (co dy (x * xy) (y * yy))]) ∧
      (w.alloc (Obj.cells #[.int .i32 x, .int .i32 y] 50)).alloc (Obj.cells #[.int .i32 (co dx (x * xx) (y * yx)), .int .i32 (co dy (x * xy) (y * yy))] 50) = w' := by
  have H1 := Lib.hid (show co dx (x * xx) (y * yx) = dx + (x * xx + 8192) / 16384 + (y * yx + 8192) / 16384 from rfl)
  have H2 := Lib.hid (show co dy (x * xy) (y * yy) = dy + (x * xy + 8192) / 16384 + (y * yy + 8192) / 16384 from rfl)
  go_enter Try.func40, Try.ntmps40
  go_wp2
  rw [H1.out, H2.out]
  exact bodyPost_ret (v := .agg #[.int .i32 (dx + (x * xx + 8192) / 16384 + (y * yx + 8192) / 16384), .int .i32 (dy + (x * xy + 8192) / 16384 + (y * yy + 8192) / 16384)]) (by simp [results, Try.results40, go_sem]) rfl ⟨rfl, rfl⟩
theorem zzTform_at (xx xy yx yy dx dy x y : Int) (w : World) (bx : -2147483648 ≤ x ∧ x ≤ 2147483647) (bY : -2147483648 ≤ y ∧ y ≤ 2147483647)
    (c1 : -32768 ≤ xx ∧ xx ≤ 32767) (c2 : -32768 ≤ xy ∧ xy ≤ 32767) (c3 : -32768 ≤ yx ∧ yx ≤ 32767) (c4 : -32768 ≤ yy ∧ yy ≤ 32767) (c5 : -32768 ≤ dx ∧ dx ≤ 32767) (c6 : -32768 ≤ dy ∧ dy ≤ 32767)
    (h1 : -4294967296 ≤ x * xx ∧ x * xx ≤ 4294967296) (h2 : -4294967296 ≤ y * yx ∧ y * yx ≤ 4294967296) (h3 : -4294967296 ≤ x * xy ∧ x * xy ≤ 4294967296) (h4 : -4294967296 ≤ y * yy ∧ y * yy ≤ 4294967296) :
    Calls Try.prog 32 #[.int .i16 xx, .int .i16 xy, .int .i16 yx, .int .i16 yy, .int .i32 dx, .int .i32 dy, .agg #[.int .i32 x, .int .i32 y]] w fun e w' => e = .returned (.agg #[.int .i32 (co dx (x * xx) (y * yx)), .int .i32 (co dy (x * xy) (y * yy))]) ∧
      (((w.alloc (Obj.cells #[.int .i32 x, .int .i32 y] 50)).alloc (Obj.cells #[.int .i32 (co dx (x * xx) (y * yx)), .int .i32 (co dy (x * xy) (y * yy))] 50)).alloc (Obj.cells #[.int .i32 x, .int .i32 y] 50)).alloc (Obj.cells #[.int .i32 (co dx (x * xx) (y * yx)), .int .i32 (co dy (x * xy) (y * yy))] 50) = w' := by
  go_enter Try.func32, Try.ntmps32
  go_wp2_with (go_at_call 40; refine (tform_at _ _ _ _ _ _ _ _ _ bx bY c1 c2 c3 c4 c5 c6 h1 h2 h3 h4).mono ?_; rintro e w' ⟨rfl, rfl⟩)
  exact bodyPost_ret (v := .agg #[.int .i32 (co dx (x * xx) (y * yx)), .int .i32 (co dy (x * xy) (y * yy))]) (by simp [results, Try.results32, go_sem]) rfl ⟨rfl, rfl⟩

set_option maxHeartbeats 1000000 in
theorem transform_at (xx xy yx yy dx dy x y : Int) (w : World) (bx : -2147483648 ≤ x ∧ x ≤ 2147483647) (bY : -2147483648 ≤ y ∧ y ≤ 2147483647)
    (c1 : -32768 ≤ xx ∧ xx ≤ 32767) (c2 : -32768 ≤ xy ∧ xy ≤ 32767) (c3 : -32768 ≤ yx ∧ yx ≤ 32767) (c4 : -32768 ≤ yy ∧ yy ≤ 32767) (c5 : -32768 ≤ dx ∧ dx ≤ 32767) (c6 : -32768 ≤ dy ∧ dy ≤ 32767)
    (h1 : -4294967296 ≤ x * xx ∧ x * xx ≤ 4294967296) (h2 : -4294967296 ≤ y * yx ∧ y * yx ≤ 4294967296) (h3 : -4294967296 ≤ x * xy ∧ x * xy ≤ 4294967296) (h4 : -4294967296 ≤ y * yy ∧ y * yy ≤ 4294967296) :
    Calls Try.prog 17 #[.int .i16 xx, .int .i16 xy, .int .i16 yx, .int .i16 yy, .int .i64 dx, .int .i64 dy, .agg #[.int .i64 x, .int .i64 y]] w fun e w' => e = .returned (.agg #[.int .i64 (co dx (x * xx) (y * yx)), .int .i64 (co dy (x * xy) (y * yy))]) ∧
      ((((((((((w.alloc (Obj.cells #[.int .i64 x, .int .i64 y] 27)).alloc (Obj.cells #[.int .i64 (co dx (x * xx) (y * yx)), .int .i64 (co dy (x * xy) (y * yy))] 27)).alloc (Obj.cells #[.int .i64 x, .int .i64 y] 27)).alloc (Obj.cells #[.int .i32 x, .int .i32 y] 50)).alloc (Obj.cells #[.int .i32 x, .int .i32 y] 50)).alloc (Obj.cells #[.int .i32 (co dx (x * xx) (y * yx)), .int .i32 (co dy (x * xy) (y * yy))] 50)).alloc (Obj.cells #[.int .i32 x, .int .i32 y] 50)).alloc (Obj.cells #[.int .i32 (co dx (x * xx) (y * yx)), .int .i32 (co dy (x * xy) (y * yy))] 50)).alloc (Obj.cells #[.int .i32 (co dx (x * xx) (y * yx)), .int .i32 (co dy (x * xy) (y * yy))] 50)).alloc (Obj.cells #[.int .i64 (co dx (x * xx) (y * yx)), .int .i64 (co dy (x * xy) (y * yy))] 27)) = w' := by
  have q1 := co_bd c5 h1 h2
  have q2 := co_bd c6 h3 h4
  go_enter Try.func17, Try.ntmps17
  go_wp2_with (first | (go_at_call 27; refine (pointTo_at _ _ _ bx bY).mono ?_; rintro e w' ⟨rfl, rfl⟩) | (go_at_call 32; refine (zzTform_at _ _ _ _ _ _ _ _ _ bx bY c1 c2 c3 c4 c5 c6 h1 h2 h3 h4).mono ?_; rintro e w' ⟨rfl, rfl⟩) | (go_at_call 26; refine (Geo2.pointOf_at _ _ _ q1 q2).mono ?_; rintro e w' ⟨rfl, rfl⟩))
  exact bodyPost_ret (v := .agg #[.int .i64 (co dx (x * xx) (y * yx)), .int .i64 (co dy (x * xy) (y * yy))]) (by simp [results, Try.results17, go_sem]) rfl ⟨rfl, rfl⟩

theorem turn_any (v : Int) (w : World) : Calls Try.prog 16 #[.int .i8 v] w fun e w' => e = .returned (.int .i64 (v.tmod 8)) ∧ w = w' := by
  have h1 := Int.lt_tmod_of_pos v (b := 8) (by omega)
  have h2 := Int.tmod_lt_of_pos v (b := 8) (by omega)
  go_enter Try.func16, Try.ntmps16
  go_wp2
  go_ret
  exact ⟨rfl, rfl⟩
theorem turn_same (v : Int) (w : World) : Calls Try.prog 16 #[.int .i8 v] w fun e w' => e = .returned (.int .i64 (v.tmod 8)) ∧ w' = w :=
  (turn_any v w).mono fun _ _ ⟨he, hw⟩ => ⟨he, hw.symm⟩
/-- factors of quarters at places of multiples of 4 -/
theorem quarters (d f p g q : Int) : co d (4 * p * (f * 4096)) (4 * q * (g * 4096)) = d + f * p + g * q := by
  unfold co
  have e1 : 4 * p * (f * 4096) = 16384 * (f * p) := by
    rw [Int.mul_comm f 4096, ← Int.mul_assoc, Int.mul_right_comm 4 p 4096, Int.mul_assoc, Int.mul_comm p f]; rfl
  have e2 : 4 * q * (g * 4096) = 16384 * (g * q) := by
    rw [Int.mul_comm g 4096, ← Int.mul_assoc, Int.mul_right_comm 4 q 4096, Int.mul_assoc, Int.mul_comm q g]; rfl
  rw [e1, e2]
  omega
end Go.Proofs.Ytjpnobmgcgeofaa.Tform
