/-
  NARROWER THAN 'FOR EVERY INPUT', by the rows' own cells (each row's printed sentence says how): FnCmap: ifaces, laid.
  DERIVED. THE GIVEN ROWS OF THIS SEAT. 1 by the template 'for every input the law returns true; each argument reads behind the call as it read before'; 0 by the template 'total and deterministic' (their statements: YthcdolgmifkfdaaDoorTotals.lean).
  GIVEN WITH THE SEED: the statements are not yours to turn. If you find one false, say at which input.
  Laid BY PROGRAM, IN A SANDBOX (cutbox-rows.mjs): the forced cells as the released guide's own fill.sh prints them over the translation c79c17f9bdca6125… (all of the seat's roots in one cut). By AI agents, Wed Nov 11 2026. No macro, syntax, notation, axiom, sorry.
-/
import Derived.Test.YthcdolgmifkfdaaDoorChecked
import GoSem.Claim
import GoSem.ClaimJoined
import GoSem.ClaimMapViews
import Derived.JoinedTies
import Derived.KernelRfl
namespace Go.Proofs.YthcdolgmifkfdaaDoor
/- THE CELL 'sum', in the pinned program and in every row, IS THE sha256 OF THE DUMP (.gsa) THAT YthcdolgmifkfdaaDoorProg.lean LOADS. Nothing in Lean hashes anything: it is a label: what it is worth is what the hold of that sum in a sandbox is worth. -/
noncomputable def Tryd.pinned : Pinned := { name := "ythcdolgmifkfdaadoor", sum := "c79c17f9bdca612523c35e37e6991fb29440ed544db0577ccb8320257d7b0d41", checked := Tryd.checked }
namespace Rows
def none {H : Type} : Left H := { results := [], args := [] }

/- WHAT THE LISTED PACKAGE-LEVEL VARIABLES READ AS WHEN THE CALL BEGINS. Each datum BY PROGRAM (the guide's laid-datum.mjs) off the statement by which the dump's own 'gosem.cut.vars' lays the variable. In a bare row this is a premise. The card (YthcdolgmifkfdaaDoorCards.lean) ties it to the program's text. -/
def laid_loop_example_pub_g03433_pub_sfnt_errInvalidBounds {H : Type} : DataW H := .iface "*errors.errorString" (.ptr (.agg [.lit (.string [115, 102, 110, 116, 58, 32, 105, 110, 118, 97, 108, 105, 100, 32, 98, 111, 117, 110, 100, 115])]))
def laid_loop_example_pub_g03433_pub_sfnt_errInvalidCmapTable {H : Type} : DataW H := .iface "*errors.errorString" (.ptr (.agg [.lit (.string [115, 102, 110, 116, 58, 32, 105, 110, 118, 97, 108, 105, 100, 32, 99, 109, 97, 112, 32, 116, 97, 98, 108, 101])]))
def laid_loop_example_pub_g03433_pub_sfnt_errUnsupportedNumberOfCmapSegments {H : Type} : DataW H := .iface "*errors.errorString" (.ptr (.agg [.lit (.string [115, 102, 110, 116, 58, 32, 117, 110, 115, 117, 112, 112, 111, 114, 116, 101, 100, 32, 110, 117, 109, 98, 101, 114, 32, 111, 102, 32, 99, 109, 97, 112, 32, 115, 101, 103, 109, 101, 110, 116, 115])]))

/-- 'laws.FnCmap': WHATEVER THE INPUT: true; the input reads as it did. -/
def fnCmapSpec : ChangeSpec := { name := "fnCmap", vars := ["loop.example/pub-g03433/pub/sfnt.errInvalidCmapTable", "loop.example/pub-g03433/pub/sfnt.errInvalidBounds", "loop.example/pub-g03433/pub/sfnt.errUnsupportedNumberOfCmapSegments"], fn := fun _ => fun
  | [d1, d2, d3, d4, d5, g1, g2, g3] => { results := [.lit (.bool true)], args := [d1, d2, d3, d4, d5], vars := [g1, g2, g3] }
  | _ => none }
def fnCmapRow : OpenClaim := { program := "ythcdolgmifkfdaadoor", sum := "c79c17f9bdca612523c35e37e6991fb29440ed544db0577ccb8320257d7b0d41", func := "loop.example/pub-g03433/laws.FnCmap", spec := "fnCmap", unfollowed := true, recurses := true, named := ["loop.example/pub-g03433/pub/sfnt.errInvalidCmapTable", "loop.example/pub-g03433/pub/sfnt.errInvalidBounds", "loop.example/pub-g03433/pub/sfnt.errUnsupportedNumberOfCmapSegments"], ifaces := true, apart := false, laid := [("loop.example/pub-g03433/pub/sfnt.errInvalidBounds", laid_loop_example_pub_g03433_pub_sfnt_errInvalidBounds), ("loop.example/pub-g03433/pub/sfnt.errInvalidCmapTable", laid_loop_example_pub_g03433_pub_sfnt_errInvalidCmapTable), ("loop.example/pub-g03433/pub/sfnt.errUnsupportedNumberOfCmapSegments", laid_loop_example_pub_g03433_pub_sfnt_errUnsupportedNumberOfCmapSegments)] }
def FnCmapSaid : Prop := fnCmapRow.holds Tryd.pinned (OpenSpec.ofChange fnCmapSpec)

/-- ITS FALSE NEIGHBOUR: 'it returns false'. Refute it at one input. -/
def fnCmapWrong : ChangeSpec := { name := "fnCmap", vars := ["loop.example/pub-g03433/pub/sfnt.errInvalidCmapTable", "loop.example/pub-g03433/pub/sfnt.errInvalidBounds", "loop.example/pub-g03433/pub/sfnt.errUnsupportedNumberOfCmapSegments"], fn := fun _ => fun
  | [d1, d2, d3, d4, d5, g1, g2, g3] => { results := [.lit (.bool false)], args := [d1, d2, d3, d4, d5], vars := [g1, g2, g3] }
  | _ => none }
def FnCmapWrongFalsely : Prop := fnCmapRow.holds Tryd.pinned (OpenSpec.ofChange fnCmapWrong)

/- THE SECOND FORM. 'bulk': how many values and letters a reading holds, each counted each time it is reached (what is shared counts as often as it is met; a slice's spare places count too). A statement '..UptoSaid' is the law's where the arguments, and the package variables that the reading takes, are together of bulk at most 1048576: NARROWER than '..Said'. Prove '..Said' where nothing that the law and all that it calls make is longer than what came in: it says more and counts as full. Else prove '..UptoSaid'. A law counts once. -/
mutual
def uptoBulk {H : Type} : DataW H → Nat
  | .lit (.string bytes) => bytes.length + 1
  | .lit _ => 1
  | .nil => 1
  | .ptr d => uptoBulk d + 1
  | .slice elems spare => uptoBulkAll elems + uptoBulkAll spare + 1
  | .agg parts => uptoBulkAll parts + 1
  | .iface _ d => uptoBulk d + 1
  | .map entries => uptoBulkEntries entries + 1
  | .held _ => 1
def uptoBulkAll {H : Type} : List (DataW H) → Nat
  | [] => 0
  | d :: r => uptoBulk d + uptoBulkAll r
def uptoBulkEntries {H : Type} : List (Lit × DataW H) → Nat
  | [] => 0
  | x :: r => uptoBulkEntry x + uptoBulkEntries r
def uptoBulkEntry {H : Type} : Lit × DataW H → Nat
  | (.string bytes, d) => bytes.length + uptoBulk d + 1
  | (_, d) => uptoBulk d + 1
 end
def uptoSmall : (H : Type) → List (DataW H) → Bool := fun _ ds => decide (uptoBulkAll ds ≤ 1048576)
def OpenSpec.upto (s : _root_.Go.ChangeSpec) : _root_.Go.OpenSpec := { _root_.Go.OpenSpec.ofChange s with cond := some uptoSmall }

/-- 'laws.FnCmap', WHERE WHAT IT READS IS OF BULK AT MOST 1048576: true; the input reads as it did. -/
def fnCmapUptoRow : OpenClaim := { program := "ythcdolgmifkfdaadoor", sum := "c79c17f9bdca612523c35e37e6991fb29440ed544db0577ccb8320257d7b0d41", func := "loop.example/pub-g03433/laws.FnCmap", spec := "fnCmap", unfollowed := true, recurses := true, named := ["loop.example/pub-g03433/pub/sfnt.errInvalidCmapTable", "loop.example/pub-g03433/pub/sfnt.errInvalidBounds", "loop.example/pub-g03433/pub/sfnt.errUnsupportedNumberOfCmapSegments"], ifaces := true, apart := false, laid := [("loop.example/pub-g03433/pub/sfnt.errInvalidBounds", laid_loop_example_pub_g03433_pub_sfnt_errInvalidBounds), ("loop.example/pub-g03433/pub/sfnt.errInvalidCmapTable", laid_loop_example_pub_g03433_pub_sfnt_errInvalidCmapTable), ("loop.example/pub-g03433/pub/sfnt.errUnsupportedNumberOfCmapSegments", laid_loop_example_pub_g03433_pub_sfnt_errUnsupportedNumberOfCmapSegments)], narrowed := true }
def FnCmapUptoSaid : Prop := fnCmapUptoRow.holds Tryd.pinned (OpenSpec.upto fnCmapSpec)

end Rows
end Go.Proofs.YthcdolgmifkfdaaDoor
