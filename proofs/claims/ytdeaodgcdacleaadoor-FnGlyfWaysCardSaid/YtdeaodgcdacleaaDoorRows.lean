/-
  NARROWER THAN 'FOR EVERY INPUT', by the rows' own cells (each row's printed sentence says how): FnGlyf: ifaces, laid · FnGlyfWays: ifaces, laid.
  DERIVED. THE GIVEN ROWS OF THIS SEAT. 2 by the template 'for every input the law returns true; each argument reads behind the call as it read before'; 0 by the template 'total and deterministic' (their statements: YtdeaodgcdacleaaDoorTotals.lean).
  GIVEN WITH THE SEED: the statements are not yours to turn. If you find one false, say at which input.
  Laid BY PROGRAM, IN A SANDBOX (cutbox-rows.mjs): the forced cells as the released guide's own fill.sh prints them over the translation 3102e3a0d1df612c… (all of the seat's roots in one cut). By AI agents, Wed Nov 11 2026. No macro, syntax, notation, axiom, sorry.
-/
import Derived.Test.YtdeaodgcdacleaaDoorChecked
import GoSem.Claim
import GoSem.ClaimJoined
import GoSem.ClaimMapViews
import Derived.JoinedTies
import Derived.KernelRfl
namespace Go.Proofs.YtdeaodgcdacleaaDoor
/- THE CELL 'sum', in the pinned program and in every row, IS THE sha256 OF THE DUMP (.gsa) THAT YtdeaodgcdacleaaDoorProg.lean LOADS. Nothing in Lean hashes anything: it is a label: what it is worth is what the hold of that sum in a sandbox is worth. -/
noncomputable def Tryd.pinned : Pinned := { name := "ytdeaodgcdacleaadoor", sum := "3102e3a0d1df612cc4a486c57a60dbddcdb0995c05c7e154965dcadf89160326", checked := Tryd.checked }
namespace Rows
def none {H : Type} : Left H := { results := [], args := [] }

/- WHAT THE LISTED PACKAGE-LEVEL VARIABLES READ AS WHEN THE CALL BEGINS. Each datum BY PROGRAM (the guide's laid-datum.mjs) off the statement by which the dump's own 'gosem.cut.vars' lays the variable. In a bare row this is a premise. The card (YtdeaodgcdacleaaDoorCards.lean) ties it to the program's text. -/
def laid_loop_example_pub_g03433_pub_sfnt_ErrColoredGlyph {H : Type} : DataW H := .iface "*errors.errorString" (.ptr (.agg [.lit (.string [115, 102, 110, 116, 58, 32, 99, 111, 108, 111, 114, 101, 100, 32, 103, 108, 121, 112, 104])]))
def laid_loop_example_pub_g03433_pub_sfnt_ErrNotFound {H : Type} : DataW H := .iface "*errors.errorString" (.ptr (.agg [.lit (.string [115, 102, 110, 116, 58, 32, 110, 111, 116, 32, 102, 111, 117, 110, 100])]))
def laid_loop_example_pub_g03433_pub_sfnt_errInvalidBounds {H : Type} : DataW H := .iface "*errors.errorString" (.ptr (.agg [.lit (.string [115, 102, 110, 116, 58, 32, 105, 110, 118, 97, 108, 105, 100, 32, 98, 111, 117, 110, 100, 115])]))
def laid_loop_example_pub_g03433_pub_sfnt_errInvalidGlyphData {H : Type} : DataW H := .iface "*errors.errorString" (.ptr (.agg [.lit (.string [115, 102, 110, 116, 58, 32, 105, 110, 118, 97, 108, 105, 100, 32, 103, 108, 121, 112, 104, 32, 100, 97, 116, 97])]))
def laid_loop_example_pub_g03433_pub_sfnt_errInvalidGlyphDataLength {H : Type} : DataW H := .iface "*errors.errorString" (.ptr (.agg [.lit (.string [115, 102, 110, 116, 58, 32, 105, 110, 118, 97, 108, 105, 100, 32, 103, 108, 121, 112, 104, 32, 100, 97, 116, 97, 32, 108, 101, 110, 103, 116, 104])]))
def laid_loop_example_pub_g03433_pub_sfnt_errUnsupportedCompoundGlyph {H : Type} : DataW H := .iface "*errors.errorString" (.ptr (.agg [.lit (.string [115, 102, 110, 116, 58, 32, 117, 110, 115, 117, 112, 112, 111, 114, 116, 101, 100, 32, 99, 111, 109, 112, 111, 117, 110, 100, 32, 103, 108, 121, 112, 104])]))
def laid_loop_example_pub_g03433_pub_sfnt_errUnsupportedGlyphDataLength {H : Type} : DataW H := .iface "*errors.errorString" (.ptr (.agg [.lit (.string [115, 102, 110, 116, 58, 32, 117, 110, 115, 117, 112, 112, 111, 114, 116, 101, 100, 32, 103, 108, 121, 112, 104, 32, 100, 97, 116, 97, 32, 108, 101, 110, 103, 116, 104])]))

/-- 'laws.FnGlyf': WHATEVER THE INPUT: true; the input reads as it did. -/
def fnGlyfSpec : ChangeSpec := { name := "fnGlyf", vars := ["loop.example/pub-g03433/pub/sfnt.errInvalidGlyphData", "loop.example/pub-g03433/pub/sfnt.ErrNotFound", "loop.example/pub-g03433/pub/sfnt.errInvalidGlyphDataLength", "loop.example/pub-g03433/pub/sfnt.errUnsupportedGlyphDataLength", "loop.example/pub-g03433/pub/sfnt.errInvalidBounds", "loop.example/pub-g03433/pub/sfnt.errUnsupportedCompoundGlyph", "loop.example/pub-g03433/pub/sfnt.ErrColoredGlyph"], fn := fun _ => fun
  | [d1, d2, d3, d4, g1, g2, g3, g4, g5, g6, g7] => { results := [.lit (.bool true)], args := [d1, d2, d3, d4], vars := [g1, g2, g3, g4, g5, g6, g7] }
  | _ => none }
def fnGlyfRow : OpenClaim := { program := "ytdeaodgcdacleaadoor", sum := "3102e3a0d1df612cc4a486c57a60dbddcdb0995c05c7e154965dcadf89160326", func := "loop.example/pub-g03433/laws.FnGlyf", spec := "fnGlyf", inPlace := ["internal/reflectlite.TypeOf"], unfollowed := true, recurses := true, named := ["loop.example/pub-g03433/pub/sfnt.errInvalidGlyphData", "loop.example/pub-g03433/pub/sfnt.ErrNotFound", "loop.example/pub-g03433/pub/sfnt.errInvalidGlyphDataLength", "loop.example/pub-g03433/pub/sfnt.errUnsupportedGlyphDataLength", "loop.example/pub-g03433/pub/sfnt.errInvalidBounds", "loop.example/pub-g03433/pub/sfnt.errUnsupportedCompoundGlyph", "loop.example/pub-g03433/pub/sfnt.ErrColoredGlyph"], ifaces := true, apart := false, laid := [("loop.example/pub-g03433/pub/sfnt.ErrColoredGlyph", laid_loop_example_pub_g03433_pub_sfnt_ErrColoredGlyph), ("loop.example/pub-g03433/pub/sfnt.ErrNotFound", laid_loop_example_pub_g03433_pub_sfnt_ErrNotFound), ("loop.example/pub-g03433/pub/sfnt.errInvalidBounds", laid_loop_example_pub_g03433_pub_sfnt_errInvalidBounds), ("loop.example/pub-g03433/pub/sfnt.errInvalidGlyphData", laid_loop_example_pub_g03433_pub_sfnt_errInvalidGlyphData), ("loop.example/pub-g03433/pub/sfnt.errInvalidGlyphDataLength", laid_loop_example_pub_g03433_pub_sfnt_errInvalidGlyphDataLength), ("loop.example/pub-g03433/pub/sfnt.errUnsupportedCompoundGlyph", laid_loop_example_pub_g03433_pub_sfnt_errUnsupportedCompoundGlyph), ("loop.example/pub-g03433/pub/sfnt.errUnsupportedGlyphDataLength", laid_loop_example_pub_g03433_pub_sfnt_errUnsupportedGlyphDataLength)] }
def FnGlyfSaid : Prop := fnGlyfRow.holds Tryd.pinned (OpenSpec.ofChange fnGlyfSpec)

/-- ITS FALSE NEIGHBOUR: 'it returns false'. Refute it at one input. -/
def fnGlyfWrong : ChangeSpec := { name := "fnGlyf", vars := ["loop.example/pub-g03433/pub/sfnt.errInvalidGlyphData", "loop.example/pub-g03433/pub/sfnt.ErrNotFound", "loop.example/pub-g03433/pub/sfnt.errInvalidGlyphDataLength", "loop.example/pub-g03433/pub/sfnt.errUnsupportedGlyphDataLength", "loop.example/pub-g03433/pub/sfnt.errInvalidBounds", "loop.example/pub-g03433/pub/sfnt.errUnsupportedCompoundGlyph", "loop.example/pub-g03433/pub/sfnt.ErrColoredGlyph"], fn := fun _ => fun
  | [d1, d2, d3, d4, g1, g2, g3, g4, g5, g6, g7] => { results := [.lit (.bool false)], args := [d1, d2, d3, d4], vars := [g1, g2, g3, g4, g5, g6, g7] }
  | _ => none }
def FnGlyfWrongFalsely : Prop := fnGlyfRow.holds Tryd.pinned (OpenSpec.ofChange fnGlyfWrong)

/-- 'laws.FnGlyfWays': WHATEVER THE INPUT: true; the input reads as it did. -/
def fnGlyfWaysSpec : ChangeSpec := { name := "fnGlyfWays", vars := ["loop.example/pub-g03433/pub/sfnt.errInvalidGlyphData", "loop.example/pub-g03433/pub/sfnt.ErrNotFound", "loop.example/pub-g03433/pub/sfnt.errInvalidGlyphDataLength", "loop.example/pub-g03433/pub/sfnt.errUnsupportedGlyphDataLength", "loop.example/pub-g03433/pub/sfnt.errInvalidBounds", "loop.example/pub-g03433/pub/sfnt.errUnsupportedCompoundGlyph", "loop.example/pub-g03433/pub/sfnt.ErrColoredGlyph"], fn := fun _ => fun
  | [d1, d2, d3, d4, d5, d6, g1, g2, g3, g4, g5, g6, g7] => { results := [.lit (.bool true)], args := [d1, d2, d3, d4, d5, d6], vars := [g1, g2, g3, g4, g5, g6, g7] }
  | _ => none }
def fnGlyfWaysRow : OpenClaim := { program := "ytdeaodgcdacleaadoor", sum := "3102e3a0d1df612cc4a486c57a60dbddcdb0995c05c7e154965dcadf89160326", func := "loop.example/pub-g03433/laws.FnGlyfWays", spec := "fnGlyfWays", inPlace := ["internal/reflectlite.TypeOf"], unfollowed := true, recurses := true, named := ["loop.example/pub-g03433/pub/sfnt.errInvalidGlyphData", "loop.example/pub-g03433/pub/sfnt.ErrNotFound", "loop.example/pub-g03433/pub/sfnt.errInvalidGlyphDataLength", "loop.example/pub-g03433/pub/sfnt.errUnsupportedGlyphDataLength", "loop.example/pub-g03433/pub/sfnt.errInvalidBounds", "loop.example/pub-g03433/pub/sfnt.errUnsupportedCompoundGlyph", "loop.example/pub-g03433/pub/sfnt.ErrColoredGlyph"], ifaces := true, apart := false, laid := [("loop.example/pub-g03433/pub/sfnt.ErrColoredGlyph", laid_loop_example_pub_g03433_pub_sfnt_ErrColoredGlyph), ("loop.example/pub-g03433/pub/sfnt.ErrNotFound", laid_loop_example_pub_g03433_pub_sfnt_ErrNotFound), ("loop.example/pub-g03433/pub/sfnt.errInvalidBounds", laid_loop_example_pub_g03433_pub_sfnt_errInvalidBounds), ("loop.example/pub-g03433/pub/sfnt.errInvalidGlyphData", laid_loop_example_pub_g03433_pub_sfnt_errInvalidGlyphData), ("loop.example/pub-g03433/pub/sfnt.errInvalidGlyphDataLength", laid_loop_example_pub_g03433_pub_sfnt_errInvalidGlyphDataLength), ("loop.example/pub-g03433/pub/sfnt.errUnsupportedCompoundGlyph", laid_loop_example_pub_g03433_pub_sfnt_errUnsupportedCompoundGlyph), ("loop.example/pub-g03433/pub/sfnt.errUnsupportedGlyphDataLength", laid_loop_example_pub_g03433_pub_sfnt_errUnsupportedGlyphDataLength)] }
def FnGlyfWaysSaid : Prop := fnGlyfWaysRow.holds Tryd.pinned (OpenSpec.ofChange fnGlyfWaysSpec)

/-- ITS FALSE NEIGHBOUR: 'it returns false'. Refute it at one input. -/
def fnGlyfWaysWrong : ChangeSpec := { name := "fnGlyfWays", vars := ["loop.example/pub-g03433/pub/sfnt.errInvalidGlyphData", "loop.example/pub-g03433/pub/sfnt.ErrNotFound", "loop.example/pub-g03433/pub/sfnt.errInvalidGlyphDataLength", "loop.example/pub-g03433/pub/sfnt.errUnsupportedGlyphDataLength", "loop.example/pub-g03433/pub/sfnt.errInvalidBounds", "loop.example/pub-g03433/pub/sfnt.errUnsupportedCompoundGlyph", "loop.example/pub-g03433/pub/sfnt.ErrColoredGlyph"], fn := fun _ => fun
  | [d1, d2, d3, d4, d5, d6, g1, g2, g3, g4, g5, g6, g7] => { results := [.lit (.bool false)], args := [d1, d2, d3, d4, d5, d6], vars := [g1, g2, g3, g4, g5, g6, g7] }
  | _ => none }
def FnGlyfWaysWrongFalsely : Prop := fnGlyfWaysRow.holds Tryd.pinned (OpenSpec.ofChange fnGlyfWaysWrong)

/- THE SECOND FORM. 'bulk': how many values and letters a reading holds, each counted each time it is reached (what is shared counts as often as it is met; a slice's spare places count too). A statement '..UptoSaid' is the law's where the arguments, and the package variables that the reading takes, are together of bulk at most 1048576: NARROWER than '..Said'. Prove '..Said' where nothing that the law and all that it calls make is longer than what came in: it says more and counts as full. Else prove '..UptoSaid'. A law counts once. -/
mutual
def uptoBulk {H : Type} : DataW H → Nat
  | .lit (.string bytes) => bytes.length + 1
  | .lit _ => 1
  | .nil => 1
  | .ptr d => uptoBulk d + 1
  | .slice elems spare => uptoBulkAll elems + uptoBulkAll spare + 1
  | .agg parts => uptoBulkAll parts + 1
  | .iface _ d => uptoBulk d + 1
  | .map entries => uptoBulkEntries entries + 1
  | .held _ => 1
def uptoBulkAll {H : Type} : List (DataW H) → Nat
  | [] => 0
  | d :: r => uptoBulk d + uptoBulkAll r
def uptoBulkEntries {H : Type} : List (Lit × DataW H) → Nat
  | [] => 0
  | x :: r => uptoBulkEntry x + uptoBulkEntries r
def uptoBulkEntry {H : Type} : Lit × DataW H → Nat
  | (.string bytes, d) => bytes.length + uptoBulk d + 1
  | (_, d) => uptoBulk d + 1
 end
def uptoSmall : (H : Type) → List (DataW H) → Bool := fun _ ds => decide (uptoBulkAll ds ≤ 1048576)
def OpenSpec.upto (s : _root_.Go.ChangeSpec) : _root_.Go.OpenSpec := { _root_.Go.OpenSpec.ofChange s with cond := some uptoSmall }

/-- 'laws.FnGlyf', WHERE WHAT IT READS IS OF BULK AT MOST 1048576: true; the input reads as it did. -/
def fnGlyfUptoRow : OpenClaim := { program := "ytdeaodgcdacleaadoor", sum := "3102e3a0d1df612cc4a486c57a60dbddcdb0995c05c7e154965dcadf89160326", func := "loop.example/pub-g03433/laws.FnGlyf", spec := "fnGlyf", inPlace := ["internal/reflectlite.TypeOf"], unfollowed := true, recurses := true, named := ["loop.example/pub-g03433/pub/sfnt.errInvalidGlyphData", "loop.example/pub-g03433/pub/sfnt.ErrNotFound", "loop.example/pub-g03433/pub/sfnt.errInvalidGlyphDataLength", "loop.example/pub-g03433/pub/sfnt.errUnsupportedGlyphDataLength", "loop.example/pub-g03433/pub/sfnt.errInvalidBounds", "loop.example/pub-g03433/pub/sfnt.errUnsupportedCompoundGlyph", "loop.example/pub-g03433/pub/sfnt.ErrColoredGlyph"], ifaces := true, apart := false, laid := [("loop.example/pub-g03433/pub/sfnt.ErrColoredGlyph", laid_loop_example_pub_g03433_pub_sfnt_ErrColoredGlyph), ("loop.example/pub-g03433/pub/sfnt.ErrNotFound", laid_loop_example_pub_g03433_pub_sfnt_ErrNotFound), ("loop.example/pub-g03433/pub/sfnt.errInvalidBounds", laid_loop_example_pub_g03433_pub_sfnt_errInvalidBounds), ("loop.example/pub-g03433/pub/sfnt.errInvalidGlyphData", laid_loop_example_pub_g03433_pub_sfnt_errInvalidGlyphData), ("loop.example/pub-g03433/pub/sfnt.errInvalidGlyphDataLength", laid_loop_example_pub_g03433_pub_sfnt_errInvalidGlyphDataLength), ("loop.example/pub-g03433/pub/sfnt.errUnsupportedCompoundGlyph", laid_loop_example_pub_g03433_pub_sfnt_errUnsupportedCompoundGlyph), ("loop.example/pub-g03433/pub/sfnt.errUnsupportedGlyphDataLength", laid_loop_example_pub_g03433_pub_sfnt_errUnsupportedGlyphDataLength)], narrowed := true }
def FnGlyfUptoSaid : Prop := fnGlyfUptoRow.holds Tryd.pinned (OpenSpec.upto fnGlyfSpec)

/-- 'laws.FnGlyfWays', WHERE WHAT IT READS IS OF BULK AT MOST 1048576: true; the input reads as it did. -/
def fnGlyfWaysUptoRow : OpenClaim := { program := "ytdeaodgcdacleaadoor", sum := "3102e3a0d1df612cc4a486c57a60dbddcdb0995c05c7e154965dcadf89160326", func := "loop.example/pub-g03433/laws.FnGlyfWays", spec := "fnGlyfWays", inPlace := ["internal/reflectlite.TypeOf"], unfollowed := true, recurses := true, named := ["loop.example/pub-g03433/pub/sfnt.errInvalidGlyphData", "loop.example/pub-g03433/pub/sfnt.ErrNotFound", "loop.example/pub-g03433/pub/sfnt.errInvalidGlyphDataLength", "loop.example/pub-g03433/pub/sfnt.errUnsupportedGlyphDataLength", "loop.example/pub-g03433/pub/sfnt.errInvalidBounds", "loop.example/pub-g03433/pub/sfnt.errUnsupportedCompoundGlyph", "loop.example/pub-g03433/pub/sfnt.ErrColoredGlyph"], ifaces := true, apart := false, laid := [("loop.example/pub-g03433/pub/sfnt.ErrColoredGlyph", laid_loop_example_pub_g03433_pub_sfnt_ErrColoredGlyph), ("loop.example/pub-g03433/pub/sfnt.ErrNotFound", laid_loop_example_pub_g03433_pub_sfnt_ErrNotFound), ("loop.example/pub-g03433/pub/sfnt.errInvalidBounds", laid_loop_example_pub_g03433_pub_sfnt_errInvalidBounds), ("loop.example/pub-g03433/pub/sfnt.errInvalidGlyphData", laid_loop_example_pub_g03433_pub_sfnt_errInvalidGlyphData), ("loop.example/pub-g03433/pub/sfnt.errInvalidGlyphDataLength", laid_loop_example_pub_g03433_pub_sfnt_errInvalidGlyphDataLength), ("loop.example/pub-g03433/pub/sfnt.errUnsupportedCompoundGlyph", laid_loop_example_pub_g03433_pub_sfnt_errUnsupportedCompoundGlyph), ("loop.example/pub-g03433/pub/sfnt.errUnsupportedGlyphDataLength", laid_loop_example_pub_g03433_pub_sfnt_errUnsupportedGlyphDataLength)], narrowed := true }
def FnGlyfWaysUptoSaid : Prop := fnGlyfWaysUptoRow.holds Tryd.pinned (OpenSpec.upto fnGlyfWaysSpec)

end Rows
end Go.Proofs.YtdeaodgcdacleaaDoor
