/-
  DERIVED. GIVEN WITH THE SEED: THE PROGRAM's TIES (one call each: nine closed facts by the kernel) AND EACH ROW's TIE, after the 31st guide's Derived/Test/Toyas{Tie, Card}.lean. No idea stands in it: it is a product of the set-up. Laid BY PROGRAM, IN A SANDBOX (cutbox-door.mjs). By AI agents, Wed Nov 11 2026. No macro, syntax, notation, axiom, sorry.
-/
import Derived.Test.YthcdolgmifkfdaaDoorRows
import Derived.LaidByTextLater
import Derived.SevenTiedAt
import Derived.LaidSub
import Derived.LaidOnce
namespace Go.Proofs.YthcdolgmifkfdaaDoor
open Go
set_option maxRecDepth 100000
theorem seatTie1 : Tryd.prog.laidByTextLater [("loop.example/pub-g03433/pub/sfnt.errInvalidBounds", Rows.laid_loop_example_pub_g03433_pub_sfnt_errInvalidBounds), ("loop.example/pub-g03433/pub/sfnt.errInvalidCmapTable", Rows.laid_loop_example_pub_g03433_pub_sfnt_errInvalidCmapTable), ("loop.example/pub-g03433/pub/sfnt.errUnsupportedNumberOfCmapSegments", Rows.laid_loop_example_pub_g03433_pub_sfnt_errUnsupportedNumberOfCmapSegments)] [.sentinel, .sentinel, .sentinel] true :=
  Program.laidByTextLater_by_one 66 8 2 (by kernel_rfl) (by kernel_rfl) (by kernel_rfl) (by kernel_rfl) (by kernel_rfl) (by kernel_rfl) (fun _ _ => by kernel_rfl)
theorem noOwnUnsafe : Tryd.pinned.checked.prog.headLifts.contains "ownunsafe" = false := by kernel_rfl
theorem tie : Tryd.prog.laidByTextLater [("loop.example/pub-g03433/pub/sfnt.errInvalidBounds", Rows.laid_loop_example_pub_g03433_pub_sfnt_errInvalidBounds), ("loop.example/pub-g03433/pub/sfnt.errInvalidCmapTable", Rows.laid_loop_example_pub_g03433_pub_sfnt_errInvalidCmapTable), ("loop.example/pub-g03433/pub/sfnt.errUnsupportedNumberOfCmapSegments", Rows.laid_loop_example_pub_g03433_pub_sfnt_errUnsupportedNumberOfCmapSegments)] [.sentinel, .sentinel, .sentinel] true :=
  Program.laidByTextLater.sub seatTie1 ["loop.example/pub-g03433/pub/sfnt.errInvalidBounds", "loop.example/pub-g03433/pub/sfnt.errInvalidCmapTable", "loop.example/pub-g03433/pub/sfnt.errUnsupportedNumberOfCmapSegments"] (by kernel_rfl) (by kernel_rfl)
theorem fnCmap_row_tie : Rows.fnCmapRow.laidByTextAt .later Tryd.pinned [.sentinel, .sentinel, .sentinel] true :=
  OpenClaim.laidByTextAt_later rfl rfl tie noOwnUnsafe
theorem fnCmapUpto_row_tie : Rows.fnCmapUptoRow.laidByTextAt .later Tryd.pinned [.sentinel, .sentinel, .sentinel] true :=
  OpenClaim.laidByTextAt_later rfl rfl tie noOwnUnsafe
end Go.Proofs.YthcdolgmifkfdaaDoor
