/-
  NARROWER THAN 'FOR EVERY INPUT', by the rows' own cells (each row's printed sentence says how): FnUCS2: ifaces, laid · FnKernHead: ifaces, laid · FnLoca: ifaces, laid · FnCffIndex: ifaces, laid.
  DERIVED. THE GIVEN ROWS OF THIS SEAT. 4 by the template 'for every input the law returns true; each argument reads behind the call as it read before'; 0 by the template 'total and deterministic' (their statements: YtofidkkihkgagaaDoorTotals.lean).
  GIVEN WITH THE SEED: the statements are not yours to turn. If you find one false, say at which input.
  Laid BY PROGRAM, IN A SANDBOX (cutbox-rows.mjs): the forced cells as the released guide's own fill.sh prints them over the translation 64e320c1f486beb5… (all of the seat's roots in one cut). By AI agents, Wed Nov 11 2026. No macro, syntax, notation, axiom, sorry.
-/
import Derived.Test.YtofidkkihkgagaaDoorChecked
import GoSem.Claim
import GoSem.ClaimJoined
import GoSem.ClaimMapViews
import Derived.JoinedTies
import Derived.KernelRfl
namespace Go.Proofs.YtofidkkihkgagaaDoor
/- THE CELL 'sum', in the pinned program and in every row, IS THE sha256 OF THE DUMP (.gsa) THAT YtofidkkihkgagaaDoorProg.lean LOADS. Nothing in Lean hashes anything: it is a label: what it is worth is what the hold of that sum in a sandbox is worth. -/
noncomputable def Tryd.pinned : Pinned := { name := "ytofidkkihkgagaadoor", sum := "64e320c1f486beb501d15294d523f504f2603c8cf65e5f0c87a36e241b2b59c9", checked := Tryd.checked }
namespace Rows
def none {H : Type} : Left H := { results := [], args := [] }

/- WHAT THE LISTED PACKAGE-LEVEL VARIABLES READ AS WHEN THE CALL BEGINS. Each datum BY PROGRAM (the guide's laid-datum.mjs) off the statement by which the dump's own 'gosem.cut.vars' lays the variable. In a bare row this is a premise. The card (YtofidkkihkgagaaDoorCards.lean) ties it to the program's text. -/
def laid_loop_example_pub_g03433_pub_sfnt_errInvalidUCS2String {H : Type} : DataW H := .iface "*errors.errorString" (.ptr (.agg [.lit (.string [115, 102, 110, 116, 58, 32, 105, 110, 118, 97, 108, 105, 100, 32, 85, 67, 83, 45, 50, 32, 115, 116, 114, 105, 110, 103])]))
def laid_loop_example_pub_g03433_pub_sfnt_errInvalidBounds {H : Type} : DataW H := .iface "*errors.errorString" (.ptr (.agg [.lit (.string [115, 102, 110, 116, 58, 32, 105, 110, 118, 97, 108, 105, 100, 32, 98, 111, 117, 110, 100, 115])]))
def laid_loop_example_pub_g03433_pub_sfnt_errInvalidKernTable {H : Type} : DataW H := .iface "*errors.errorString" (.ptr (.agg [.lit (.string [115, 102, 110, 116, 58, 32, 105, 110, 118, 97, 108, 105, 100, 32, 107, 101, 114, 110, 32, 116, 97, 98, 108, 101])]))
def laid_loop_example_pub_g03433_pub_sfnt_errInvalidLocaTable {H : Type} : DataW H := .iface "*errors.errorString" (.ptr (.agg [.lit (.string [115, 102, 110, 116, 58, 32, 105, 110, 118, 97, 108, 105, 100, 32, 108, 111, 99, 97, 32, 116, 97, 98, 108, 101])]))
def laid_loop_example_pub_g03433_pub_sfnt_errInvalidCFFTable {H : Type} : DataW H := .iface "*errors.errorString" (.ptr (.agg [.lit (.string [115, 102, 110, 116, 58, 32, 105, 110, 118, 97, 108, 105, 100, 32, 67, 70, 70, 32, 116, 97, 98, 108, 101])]))

/-- 'laws.FnUCS2': WHATEVER THE INPUT: true; the input reads as it did. -/
def fnUCS2Spec : ChangeSpec := { name := "fnUCS2", vars := ["loop.example/pub-g03433/pub/sfnt.errInvalidUCS2String"], fn := fun _ => fun
  | [d1, d2, g1] => { results := [.lit (.bool true)], args := [d1, d2], vars := [g1] }
  | _ => none }
def fnUCS2Row : OpenClaim := { program := "ytofidkkihkgagaadoor", sum := "64e320c1f486beb501d15294d523f504f2603c8cf65e5f0c87a36e241b2b59c9", func := "loop.example/pub-g03433/laws.FnUCS2", spec := "fnUCS2", named := ["loop.example/pub-g03433/pub/sfnt.errInvalidUCS2String"], ifaces := true, apart := false, laid := [("loop.example/pub-g03433/pub/sfnt.errInvalidUCS2String", laid_loop_example_pub_g03433_pub_sfnt_errInvalidUCS2String)] }
def FnUCS2Said : Prop := fnUCS2Row.holds Tryd.pinned (OpenSpec.ofChange fnUCS2Spec)

/-- ITS FALSE NEIGHBOUR: 'it returns false'. Refute it at one input. -/
def fnUCS2Wrong : ChangeSpec := { name := "fnUCS2", vars := ["loop.example/pub-g03433/pub/sfnt.errInvalidUCS2String"], fn := fun _ => fun
  | [d1, d2, g1] => { results := [.lit (.bool false)], args := [d1, d2], vars := [g1] }
  | _ => none }
def FnUCS2WrongFalsely : Prop := fnUCS2Row.holds Tryd.pinned (OpenSpec.ofChange fnUCS2Wrong)

/-- 'laws.FnKernHead': WHATEVER THE INPUT: true; the input reads as it did. -/
def fnKernHeadSpec : ChangeSpec := { name := "fnKernHead", vars := ["loop.example/pub-g03433/pub/sfnt.errInvalidKernTable", "loop.example/pub-g03433/pub/sfnt.errInvalidBounds"], fn := fun _ => fun
  | [d1, d2, g1, g2] => { results := [.lit (.bool true)], args := [d1, d2], vars := [g1, g2] }
  | _ => none }
def fnKernHeadRow : OpenClaim := { program := "ytofidkkihkgagaadoor", sum := "64e320c1f486beb501d15294d523f504f2603c8cf65e5f0c87a36e241b2b59c9", func := "loop.example/pub-g03433/laws.FnKernHead", spec := "fnKernHead", unfollowed := true, recurses := true, named := ["loop.example/pub-g03433/pub/sfnt.errInvalidKernTable", "loop.example/pub-g03433/pub/sfnt.errInvalidBounds"], ifaces := true, apart := false, laid := [("loop.example/pub-g03433/pub/sfnt.errInvalidBounds", laid_loop_example_pub_g03433_pub_sfnt_errInvalidBounds), ("loop.example/pub-g03433/pub/sfnt.errInvalidKernTable", laid_loop_example_pub_g03433_pub_sfnt_errInvalidKernTable)] }
def FnKernHeadSaid : Prop := fnKernHeadRow.holds Tryd.pinned (OpenSpec.ofChange fnKernHeadSpec)

/-- ITS FALSE NEIGHBOUR: 'it returns false'. Refute it at one input. -/
def fnKernHeadWrong : ChangeSpec := { name := "fnKernHead", vars := ["loop.example/pub-g03433/pub/sfnt.errInvalidKernTable", "loop.example/pub-g03433/pub/sfnt.errInvalidBounds"], fn := fun _ => fun
  | [d1, d2, g1, g2] => { results := [.lit (.bool false)], args := [d1, d2], vars := [g1, g2] }
  | _ => none }
def FnKernHeadWrongFalsely : Prop := fnKernHeadRow.holds Tryd.pinned (OpenSpec.ofChange fnKernHeadWrong)

/-- 'laws.FnLoca': WHATEVER THE INPUT: true; the input reads as it did. -/
def fnLocaSpec : ChangeSpec := { name := "fnLoca", vars := ["loop.example/pub-g03433/pub/sfnt.errInvalidLocaTable", "loop.example/pub-g03433/pub/sfnt.errInvalidBounds"], fn := fun _ => fun
  | [d1, d2, d3, g1, g2] => { results := [.lit (.bool true)], args := [d1, d2, d3], vars := [g1, g2] }
  | _ => none }
def fnLocaRow : OpenClaim := { program := "ytofidkkihkgagaadoor", sum := "64e320c1f486beb501d15294d523f504f2603c8cf65e5f0c87a36e241b2b59c9", func := "loop.example/pub-g03433/laws.FnLoca", spec := "fnLoca", unfollowed := true, recurses := true, named := ["loop.example/pub-g03433/pub/sfnt.errInvalidLocaTable", "loop.example/pub-g03433/pub/sfnt.errInvalidBounds"], ifaces := true, apart := false, laid := [("loop.example/pub-g03433/pub/sfnt.errInvalidBounds", laid_loop_example_pub_g03433_pub_sfnt_errInvalidBounds), ("loop.example/pub-g03433/pub/sfnt.errInvalidLocaTable", laid_loop_example_pub_g03433_pub_sfnt_errInvalidLocaTable)] }
def FnLocaSaid : Prop := fnLocaRow.holds Tryd.pinned (OpenSpec.ofChange fnLocaSpec)

/-- ITS FALSE NEIGHBOUR: 'it returns false'. Refute it at one input. -/
def fnLocaWrong : ChangeSpec := { name := "fnLoca", vars := ["loop.example/pub-g03433/pub/sfnt.errInvalidLocaTable", "loop.example/pub-g03433/pub/sfnt.errInvalidBounds"], fn := fun _ => fun
  | [d1, d2, d3, g1, g2] => { results := [.lit (.bool false)], args := [d1, d2, d3], vars := [g1, g2] }
  | _ => none }
def FnLocaWrongFalsely : Prop := fnLocaRow.holds Tryd.pinned (OpenSpec.ofChange fnLocaWrong)

/-- 'laws.FnCffIndex': WHATEVER THE INPUT: true; the input reads as it did. -/
def fnCffIndexSpec : ChangeSpec := { name := "fnCffIndex", vars := ["loop.example/pub-g03433/pub/sfnt.errInvalidCFFTable", "loop.example/pub-g03433/pub/sfnt.errInvalidBounds"], fn := fun _ => fun
  | [d1, d2, g1, g2] => { results := [.lit (.bool true)], args := [d1, d2], vars := [g1, g2] }
  | _ => none }
def fnCffIndexRow : OpenClaim := { program := "ytofidkkihkgagaadoor", sum := "64e320c1f486beb501d15294d523f504f2603c8cf65e5f0c87a36e241b2b59c9", func := "loop.example/pub-g03433/laws.FnCffIndex", spec := "fnCffIndex", unfollowed := true, recurses := true, named := ["loop.example/pub-g03433/pub/sfnt.errInvalidCFFTable", "loop.example/pub-g03433/pub/sfnt.errInvalidBounds"], ifaces := true, apart := false, laid := [("loop.example/pub-g03433/pub/sfnt.errInvalidBounds", laid_loop_example_pub_g03433_pub_sfnt_errInvalidBounds), ("loop.example/pub-g03433/pub/sfnt.errInvalidCFFTable", laid_loop_example_pub_g03433_pub_sfnt_errInvalidCFFTable)] }
def FnCffIndexSaid : Prop := fnCffIndexRow.holds Tryd.pinned (OpenSpec.ofChange fnCffIndexSpec)

/-- ITS FALSE NEIGHBOUR: 'it returns false'. Refute it at one input. -/
def fnCffIndexWrong : ChangeSpec := { name := "fnCffIndex", vars := ["loop.example/pub-g03433/pub/sfnt.errInvalidCFFTable", "loop.example/pub-g03433/pub/sfnt.errInvalidBounds"], fn := fun _ => fun
  | [d1, d2, g1, g2] => { results := [.lit (.bool false)], args := [d1, d2], vars := [g1, g2] }
  | _ => none }
def FnCffIndexWrongFalsely : Prop := fnCffIndexRow.holds Tryd.pinned (OpenSpec.ofChange fnCffIndexWrong)

/- THE SECOND FORM. 'bulk': how many values and letters a reading holds, each counted each time it is reached (what is shared counts as often as it is met; a slice's spare places count too). A statement '..UptoSaid' is the law's where the arguments, and the package variables that the reading takes, are together of bulk at most 1048576: NARROWER than '..Said'. Prove '..Said' where nothing that the law and all that it calls make is longer than what came in: it says more and counts as full. Else prove '..UptoSaid'. A law counts once. -/
mutual
def uptoBulk {H : Type} : DataW H → Nat
  | .lit (.string bytes) => bytes.length + 1
  | .lit _ => 1
  | .nil => 1
  | .ptr d => uptoBulk d + 1
  | .slice elems spare => uptoBulkAll elems + uptoBulkAll spare + 1
  | .agg parts => uptoBulkAll parts + 1
  | .iface _ d => uptoBulk d + 1
  | .map entries => uptoBulkEntries entries + 1
  | .held _ => 1
def uptoBulkAll {H : Type} : List (DataW H) → Nat
  | [] => 0
  | d :: r => uptoBulk d + uptoBulkAll r
def uptoBulkEntries {H : Type} : List (Lit × DataW H) → Nat
  | [] => 0
  | x :: r => uptoBulkEntry x + uptoBulkEntries r
def uptoBulkEntry {H : Type} : Lit × DataW H → Nat
  | (.string bytes, d) => bytes.length + uptoBulk d + 1
  | (_, d) => uptoBulk d + 1
 end
def uptoSmall : (H : Type) → List (DataW H) → Bool := fun _ ds => decide (uptoBulkAll ds ≤ 1048576)
def OpenSpec.upto (s : _root_.Go.ChangeSpec) : _root_.Go.OpenSpec := { _root_.Go.OpenSpec.ofChange s with cond := some uptoSmall }

/-- 'laws.FnUCS2', WHERE WHAT IT READS IS OF BULK AT MOST 1048576: true; the input reads as it did. -/
def fnUCS2UptoRow : OpenClaim := { program := "ytofidkkihkgagaadoor", sum := "64e320c1f486beb501d15294d523f504f2603c8cf65e5f0c87a36e241b2b59c9", func := "loop.example/pub-g03433/laws.FnUCS2", spec := "fnUCS2", named := ["loop.example/pub-g03433/pub/sfnt.errInvalidUCS2String"], ifaces := true, apart := false, laid := [("loop.example/pub-g03433/pub/sfnt.errInvalidUCS2String", laid_loop_example_pub_g03433_pub_sfnt_errInvalidUCS2String)], narrowed := true }
def FnUCS2UptoSaid : Prop := fnUCS2UptoRow.holds Tryd.pinned (OpenSpec.upto fnUCS2Spec)

/-- 'laws.FnKernHead', WHERE WHAT IT READS IS OF BULK AT MOST 1048576: true; the input reads as it did. -/
def fnKernHeadUptoRow : OpenClaim := { program := "ytofidkkihkgagaadoor", sum := "64e320c1f486beb501d15294d523f504f2603c8cf65e5f0c87a36e241b2b59c9", func := "loop.example/pub-g03433/laws.FnKernHead", spec := "fnKernHead", unfollowed := true, recurses := true, named := ["loop.example/pub-g03433/pub/sfnt.errInvalidKernTable", "loop.example/pub-g03433/pub/sfnt.errInvalidBounds"], ifaces := true, apart := false, laid := [("loop.example/pub-g03433/pub/sfnt.errInvalidBounds", laid_loop_example_pub_g03433_pub_sfnt_errInvalidBounds), ("loop.example/pub-g03433/pub/sfnt.errInvalidKernTable", laid_loop_example_pub_g03433_pub_sfnt_errInvalidKernTable)], narrowed := true }
def FnKernHeadUptoSaid : Prop := fnKernHeadUptoRow.holds Tryd.pinned (OpenSpec.upto fnKernHeadSpec)

/-- 'laws.FnLoca', WHERE WHAT IT READS IS OF BULK AT MOST 1048576: true; the input reads as it did. -/
def fnLocaUptoRow : OpenClaim := { program := "ytofidkkihkgagaadoor", sum := "64e320c1f486beb501d15294d523f504f2603c8cf65e5f0c87a36e241b2b59c9", func := "loop.example/pub-g03433/laws.FnLoca", spec := "fnLoca", unfollowed := true, recurses := true, named := ["loop.example/pub-g03433/pub/sfnt.errInvalidLocaTable", "loop.example/pub-g03433/pub/sfnt.errInvalidBounds"], ifaces := true, apart := false, laid := [("loop.example/pub-g03433/pub/sfnt.errInvalidBounds", laid_loop_example_pub_g03433_pub_sfnt_errInvalidBounds), ("loop.example/pub-g03433/pub/sfnt.errInvalidLocaTable", laid_loop_example_pub_g03433_pub_sfnt_errInvalidLocaTable)], narrowed := true }
def FnLocaUptoSaid : Prop := fnLocaUptoRow.holds Tryd.pinned (OpenSpec.upto fnLocaSpec)

/-- 'laws.FnCffIndex', WHERE WHAT IT READS IS OF BULK AT MOST 1048576: true; the input reads as it did. -/
def fnCffIndexUptoRow : OpenClaim := { program := "ytofidkkihkgagaadoor", sum := "64e320c1f486beb501d15294d523f504f2603c8cf65e5f0c87a36e241b2b59c9", func := "loop.example/pub-g03433/laws.FnCffIndex", spec := "fnCffIndex", unfollowed := true, recurses := true, named := ["loop.example/pub-g03433/pub/sfnt.errInvalidCFFTable", "loop.example/pub-g03433/pub/sfnt.errInvalidBounds"], ifaces := true, apart := false, laid := [("loop.example/pub-g03433/pub/sfnt.errInvalidBounds", laid_loop_example_pub_g03433_pub_sfnt_errInvalidBounds), ("loop.example/pub-g03433/pub/sfnt.errInvalidCFFTable", laid_loop_example_pub_g03433_pub_sfnt_errInvalidCFFTable)], narrowed := true }
def FnCffIndexUptoSaid : Prop := fnCffIndexUptoRow.holds Tryd.pinned (OpenSpec.upto fnCffIndexSpec)

end Rows
end Go.Proofs.YtofidkkihkgagaaDoor
