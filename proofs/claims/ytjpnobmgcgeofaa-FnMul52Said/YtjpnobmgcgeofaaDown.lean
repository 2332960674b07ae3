/- What the function 'down' of the statements answers: the quotient, down. -/
import Derived.Test.YtjpnobmgcgeofaaNums
import Derived.Test.YtjpnobmgcgeofaaRows
import Derived.WalkKit
import Derived.Lib.Hide
namespace Go.Proofs.Ytjpnobmgcgeofaa.Down
open Go.RowKit

theorem down_any (x n : Int) (w : World) (hn : 1 ≤ n) (hn2 : n ≤ 65536) (hx : -9223372036854775000 ≤ x) (hx2 : x ≤ 9223372036854775000) :
    Calls Try.prog 19 #[.int .i64 x, .int .i64 n] w fun e w' => e = .returned (.int .i64 (x / n)) ∧ w = w' := by
  have hb := Nums.ediv_bd x n hn 9223372036854775000 (by omega) hx hx2
  by_cases h : x.tmod n < 0
  · have e := Nums.tdiv_lo x n hn h
    have hw : wrap64 (x.tdiv n - 1) = x / n := by rw [e]; exact IntWalk.wrap64_in _ ⟨by omega, by omega⟩
    have H := Lib.hid hw
    clear hw e hb
    go_enter Try.func19, Try.ntmps19
    go_wp2
    go_ret
    exact ⟨Nums.ret_int H.out, rfl⟩
  · have h' : 0 ≤ x.tmod n := by omega
    have H := Lib.hid (Nums.tdiv_hi x n hn h')
    clear h hb
    go_enter Try.func19, Try.ntmps19
    go_wp2
    go_ret
    exact ⟨Nums.ret_int H.out, rfl⟩
end Go.Proofs.Ytjpnobmgcgeofaa.Down
