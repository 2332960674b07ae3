/- The walk of FnText26, from what the row tells of the number and of the listed tables. -/
import Derived.Test.YtonejfjhddgabaaDoorTextL
namespace Go.Proofs.YtonejfjhddgabaaDoor.FnText26W
open Go.ChangeShapes Go.WideShapes Go.ChangeAt Go.RowKit
open TextW TextL
theorem row (v : Int) (wv : (Lit.int .i32 v).wf = true) (W : World) (hL : laidMet Tryd.prog Rows.fnText26Row.laid W) :
    Calls Tryd.prog 3 #[.int .i32 v] W fun e w' => e = .returned (.bool true) ∧ Below W.heap.size W w' := by
  have hb := bounds_i32 wv
  exact walk26 v (by omega) (by omega) W (tab_of W hL)
end Go.Proofs.YtonejfjhddgabaaDoor.FnText26W
