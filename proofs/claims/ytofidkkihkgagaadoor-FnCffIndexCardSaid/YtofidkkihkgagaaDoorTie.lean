/-
  DERIVED. GIVEN WITH THE SEED: THE PROGRAM's TIES (one call each: nine closed facts by the kernel) AND EACH ROW's TIE, after the 31st guide's Derived/Test/Toyas{Tie, Card}.lean. No idea stands in it: it is a product of the set-up. Laid BY PROGRAM, IN A SANDBOX (cutbox-door.mjs). By AI agents, Wed Nov 11 2026. No macro, syntax, notation, axiom, sorry.
-/
import Derived.Test.YtofidkkihkgagaaDoorRows
import Derived.LaidByTextLater
import Derived.SevenTiedAt
import Derived.LaidSub
import Derived.LaidOnce
namespace Go.Proofs.YtofidkkihkgagaaDoor
open Go
set_option maxRecDepth 100000
theorem seatTie1 : Tryd.prog.laidByTextLater [("loop.example/pub-g03433/pub/sfnt.errInvalidBounds", Rows.laid_loop_example_pub_g03433_pub_sfnt_errInvalidBounds), ("loop.example/pub-g03433/pub/sfnt.errInvalidCFFTable", Rows.laid_loop_example_pub_g03433_pub_sfnt_errInvalidCFFTable), ("loop.example/pub-g03433/pub/sfnt.errInvalidKernTable", Rows.laid_loop_example_pub_g03433_pub_sfnt_errInvalidKernTable), ("loop.example/pub-g03433/pub/sfnt.errInvalidLocaTable", Rows.laid_loop_example_pub_g03433_pub_sfnt_errInvalidLocaTable), ("loop.example/pub-g03433/pub/sfnt.errInvalidUCS2String", Rows.laid_loop_example_pub_g03433_pub_sfnt_errInvalidUCS2String)] [.sentinel, .sentinel, .sentinel, .sentinel, .sentinel] true :=
  Program.laidByTextLater_by_one 104 8 2 (by kernel_rfl) (by kernel_rfl) (by kernel_rfl) (by kernel_rfl) (by kernel_rfl) (by kernel_rfl) (fun _ _ => by kernel_rfl)
theorem noOwnUnsafe : Tryd.pinned.checked.prog.headLifts.contains "ownunsafe" = false := by kernel_rfl
theorem tie : Tryd.prog.laidByTextLater [("loop.example/pub-g03433/pub/sfnt.errInvalidUCS2String", Rows.laid_loop_example_pub_g03433_pub_sfnt_errInvalidUCS2String)] [.sentinel] true :=
  Program.laidByTextLater.sub seatTie1 ["loop.example/pub-g03433/pub/sfnt.errInvalidUCS2String"] (by kernel_rfl) (by kernel_rfl)
theorem fnUCS2_row_tie : Rows.fnUCS2Row.laidByTextAt .later Tryd.pinned [.sentinel] true :=
  OpenClaim.laidByTextAt_later rfl rfl tie noOwnUnsafe
theorem tie2 : Tryd.prog.laidByTextLater [("loop.example/pub-g03433/pub/sfnt.errInvalidBounds", Rows.laid_loop_example_pub_g03433_pub_sfnt_errInvalidBounds), ("loop.example/pub-g03433/pub/sfnt.errInvalidKernTable", Rows.laid_loop_example_pub_g03433_pub_sfnt_errInvalidKernTable)] [.sentinel, .sentinel] true :=
  Program.laidByTextLater.sub seatTie1 ["loop.example/pub-g03433/pub/sfnt.errInvalidBounds", "loop.example/pub-g03433/pub/sfnt.errInvalidKernTable"] (by kernel_rfl) (by kernel_rfl)
theorem fnKernHead_row_tie : Rows.fnKernHeadRow.laidByTextAt .later Tryd.pinned [.sentinel, .sentinel] true :=
  OpenClaim.laidByTextAt_later rfl rfl tie2 noOwnUnsafe
theorem tie3 : Tryd.prog.laidByTextLater [("loop.example/pub-g03433/pub/sfnt.errInvalidBounds", Rows.laid_loop_example_pub_g03433_pub_sfnt_errInvalidBounds), ("loop.example/pub-g03433/pub/sfnt.errInvalidLocaTable", Rows.laid_loop_example_pub_g03433_pub_sfnt_errInvalidLocaTable)] [.sentinel, .sentinel] true :=
  Program.laidByTextLater.sub seatTie1 ["loop.example/pub-g03433/pub/sfnt.errInvalidBounds", "loop.example/pub-g03433/pub/sfnt.errInvalidLocaTable"] (by kernel_rfl) (by kernel_rfl)
theorem fnLoca_row_tie : Rows.fnLocaRow.laidByTextAt .later Tryd.pinned [.sentinel, .sentinel] true :=
  OpenClaim.laidByTextAt_later rfl rfl tie3 noOwnUnsafe
theorem tie4 : Tryd.prog.laidByTextLater [("loop.example/pub-g03433/pub/sfnt.errInvalidBounds", Rows.laid_loop_example_pub_g03433_pub_sfnt_errInvalidBounds), ("loop.example/pub-g03433/pub/sfnt.errInvalidCFFTable", Rows.laid_loop_example_pub_g03433_pub_sfnt_errInvalidCFFTable)] [.sentinel, .sentinel] true :=
  Program.laidByTextLater.sub seatTie1 ["loop.example/pub-g03433/pub/sfnt.errInvalidBounds", "loop.example/pub-g03433/pub/sfnt.errInvalidCFFTable"] (by kernel_rfl) (by kernel_rfl)
theorem fnCffIndex_row_tie : Rows.fnCffIndexRow.laidByTextAt .later Tryd.pinned [.sentinel, .sentinel] true :=
  OpenClaim.laidByTextAt_later rfl rfl tie4 noOwnUnsafe
theorem fnUCS2Upto_row_tie : Rows.fnUCS2UptoRow.laidByTextAt .later Tryd.pinned [.sentinel] true :=
  OpenClaim.laidByTextAt_later rfl rfl tie noOwnUnsafe
theorem fnKernHeadUpto_row_tie : Rows.fnKernHeadUptoRow.laidByTextAt .later Tryd.pinned [.sentinel, .sentinel] true :=
  OpenClaim.laidByTextAt_later rfl rfl tie2 noOwnUnsafe
theorem fnLocaUpto_row_tie : Rows.fnLocaUptoRow.laidByTextAt .later Tryd.pinned [.sentinel, .sentinel] true :=
  OpenClaim.laidByTextAt_later rfl rfl tie3 noOwnUnsafe
theorem fnCffIndexUpto_row_tie : Rows.fnCffIndexUptoRow.laidByTextAt .later Tryd.pinned [.sentinel, .sentinel] true :=
  OpenClaim.laidByTextAt_later rfl rfl tie4 noOwnUnsafe
end Go.Proofs.YtofidkkihkgagaaDoor
