/-
  DERIVED. GIVEN WITH THE SEED: THE PROGRAM's TIES (one call each: nine closed facts by the kernel) AND EACH ROW's TIE, after the 31st guide's Derived/Test/Toyas{Tie, Card}.lean. No idea stands in it: it is a product of the set-up. Laid BY PROGRAM, IN A SANDBOX (cutbox-door.mjs). By AI agents, Wed Nov 11 2026. No macro, syntax, notation, axiom, sorry.
-/
import Derived.Test.YtdeaodgcdacleaaDoorRows
import Derived.LaidByTextLater
import Derived.SevenTiedAt
import Derived.LaidSub
import Derived.LaidOnce
namespace Go.Proofs.YtdeaodgcdacleaaDoor
open Go
set_option maxRecDepth 100000
theorem seatTie1 : Tryd.prog.laidByTextLater [("loop.example/pub-g03433/pub/sfnt.ErrColoredGlyph", Rows.laid_loop_example_pub_g03433_pub_sfnt_ErrColoredGlyph), ("loop.example/pub-g03433/pub/sfnt.ErrNotFound", Rows.laid_loop_example_pub_g03433_pub_sfnt_ErrNotFound), ("loop.example/pub-g03433/pub/sfnt.errInvalidBounds", Rows.laid_loop_example_pub_g03433_pub_sfnt_errInvalidBounds), ("loop.example/pub-g03433/pub/sfnt.errInvalidGlyphData", Rows.laid_loop_example_pub_g03433_pub_sfnt_errInvalidGlyphData), ("loop.example/pub-g03433/pub/sfnt.errInvalidGlyphDataLength", Rows.laid_loop_example_pub_g03433_pub_sfnt_errInvalidGlyphDataLength), ("loop.example/pub-g03433/pub/sfnt.errUnsupportedCompoundGlyph", Rows.laid_loop_example_pub_g03433_pub_sfnt_errUnsupportedCompoundGlyph), ("loop.example/pub-g03433/pub/sfnt.errUnsupportedGlyphDataLength", Rows.laid_loop_example_pub_g03433_pub_sfnt_errUnsupportedGlyphDataLength)] [.sentinel, .sentinel, .sentinel, .sentinel, .sentinel, .sentinel, .sentinel] true :=
  Program.laidByTextLater_by_one 142 8 2 (by kernel_rfl) (by kernel_rfl) (by kernel_rfl) (by kernel_rfl) (by kernel_rfl) (by kernel_rfl) (fun _ _ => by kernel_rfl)
theorem noOwnUnsafe : Tryd.pinned.checked.prog.headLifts.contains "ownunsafe" = false := by kernel_rfl
theorem tie : Tryd.prog.laidByTextLater [("loop.example/pub-g03433/pub/sfnt.ErrColoredGlyph", Rows.laid_loop_example_pub_g03433_pub_sfnt_ErrColoredGlyph), ("loop.example/pub-g03433/pub/sfnt.ErrNotFound", Rows.laid_loop_example_pub_g03433_pub_sfnt_ErrNotFound), ("loop.example/pub-g03433/pub/sfnt.errInvalidBounds", Rows.laid_loop_example_pub_g03433_pub_sfnt_errInvalidBounds), ("loop.example/pub-g03433/pub/sfnt.errInvalidGlyphData", Rows.laid_loop_example_pub_g03433_pub_sfnt_errInvalidGlyphData), ("loop.example/pub-g03433/pub/sfnt.errInvalidGlyphDataLength", Rows.laid_loop_example_pub_g03433_pub_sfnt_errInvalidGlyphDataLength), ("loop.example/pub-g03433/pub/sfnt.errUnsupportedCompoundGlyph", Rows.laid_loop_example_pub_g03433_pub_sfnt_errUnsupportedCompoundGlyph), ("loop.example/pub-g03433/pub/sfnt.errUnsupportedGlyphDataLength", Rows.laid_loop_example_pub_g03433_pub_sfnt_errUnsupportedGlyphDataLength)] [.sentinel, .sentinel, .sentinel, .sentinel, .sentinel, .sentinel, .sentinel] true :=
  Program.laidByTextLater.sub seatTie1 ["loop.example/pub-g03433/pub/sfnt.ErrColoredGlyph", "loop.example/pub-g03433/pub/sfnt.ErrNotFound", "loop.example/pub-g03433/pub/sfnt.errInvalidBounds", "loop.example/pub-g03433/pub/sfnt.errInvalidGlyphData", "loop.example/pub-g03433/pub/sfnt.errInvalidGlyphDataLength", "loop.example/pub-g03433/pub/sfnt.errUnsupportedCompoundGlyph", "loop.example/pub-g03433/pub/sfnt.errUnsupportedGlyphDataLength"] (by kernel_rfl) (by kernel_rfl)
theorem fnGlyf_row_tie : Rows.fnGlyfRow.laidByTextAt .later Tryd.pinned [.sentinel, .sentinel, .sentinel, .sentinel, .sentinel, .sentinel, .sentinel] true :=
  OpenClaim.laidByTextAt_later rfl rfl tie noOwnUnsafe
theorem fnGlyfWays_row_tie : Rows.fnGlyfWaysRow.laidByTextAt .later Tryd.pinned [.sentinel, .sentinel, .sentinel, .sentinel, .sentinel, .sentinel, .sentinel] true :=
  OpenClaim.laidByTextAt_later rfl rfl tie noOwnUnsafe
theorem fnGlyfUpto_row_tie : Rows.fnGlyfUptoRow.laidByTextAt .later Tryd.pinned [.sentinel, .sentinel, .sentinel, .sentinel, .sentinel, .sentinel, .sentinel] true :=
  OpenClaim.laidByTextAt_later rfl rfl tie noOwnUnsafe
theorem fnGlyfWaysUpto_row_tie : Rows.fnGlyfWaysUptoRow.laidByTextAt .later Tryd.pinned [.sentinel, .sentinel, .sentinel, .sentinel, .sentinel, .sentinel, .sentinel] true :=
  OpenClaim.laidByTextAt_later rfl rfl tie noOwnUnsafe
end Go.Proofs.YtdeaodgcdacleaaDoor
