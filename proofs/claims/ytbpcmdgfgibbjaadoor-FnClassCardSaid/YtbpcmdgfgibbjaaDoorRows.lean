/-
  NARROWER THAN 'FOR EVERY INPUT', by the rows' own cells (each row's printed sentence says how): FnClass: ifaces, laid · FnCoverage: ifaces, laid.
  DERIVED. THE GIVEN ROWS OF THIS SEAT. 2 by the template 'for every input the law returns true; each argument reads behind the call as it read before'; 0 by the template 'total and deterministic' (their statements: YtbpcmdgfgibbjaaDoorTotals.lean).
  GIVEN WITH THE SEED: the statements are not yours to turn. If you find one false, say at which input.
  Laid BY PROGRAM, IN A SANDBOX (cutbox-rows.mjs): the forced cells as the released guide's own fill.sh prints them over the translation d385a915412fe518… (all of the seat's roots in one cut). By AI agents, Wed Nov 11 2026. No macro, syntax, notation, axiom, sorry.
-/
import Derived.Test.YtbpcmdgfgibbjaaDoorChecked
import GoSem.Claim
import GoSem.ClaimJoined
import GoSem.ClaimMapViews
import Derived.JoinedTies
import Derived.KernelRfl
namespace Go.Proofs.YtbpcmdgfgibbjaaDoor
/- THE CELL 'sum', in the pinned program and in every row, IS THE sha256 OF THE DUMP (.gsa) THAT YtbpcmdgfgibbjaaDoorProg.lean LOADS. Nothing in Lean hashes anything: it is a label: what it is worth is what the hold of that sum in a sandbox is worth. -/
noncomputable def Tryd.pinned : Pinned := { name := "ytbpcmdgfgibbjaadoor", sum := "d385a915412fe5189dc957ecc3be8dcf6c38b2b4df97b7d94f476f34529e9e8c", checked := Tryd.checked }
namespace Rows
def none {H : Type} : Left H := { results := [], args := [] }

/- WHAT THE LISTED PACKAGE-LEVEL VARIABLES READ AS WHEN THE CALL BEGINS. Each datum BY PROGRAM (the guide's laid-datum.mjs) off the statement by which the dump's own 'gosem.cut.vars' lays the variable. In a bare row this is a premise. The card (YtbpcmdgfgibbjaaDoorCards.lean) ties it to the program's text. -/
def laid_loop_example_pub_g03433_pub_sfnt_errInvalidBounds {H : Type} : DataW H := .iface "*errors.errorString" (.ptr (.agg [.lit (.string [115, 102, 110, 116, 58, 32, 105, 110, 118, 97, 108, 105, 100, 32, 98, 111, 117, 110, 100, 115])]))
def laid_loop_example_pub_g03433_pub_sfnt_errUnsupportedClassDefFormat {H : Type} : DataW H := .iface "*errors.errorString" (.ptr (.agg [.lit (.string [115, 102, 110, 116, 58, 32, 117, 110, 115, 117, 112, 112, 111, 114, 116, 101, 100, 32, 99, 108, 97, 115, 115, 32, 100, 101, 102, 105, 110, 105, 116, 105, 111, 110, 32, 102, 111, 114, 109, 97, 116])]))
def laid_loop_example_pub_g03433_pub_sfnt_errUnsupportedCoverageFormat {H : Type} : DataW H := .iface "*errors.errorString" (.ptr (.agg [.lit (.string [115, 102, 110, 116, 58, 32, 117, 110, 115, 117, 112, 112, 111, 114, 116, 101, 100, 32, 99, 111, 118, 101, 114, 97, 103, 101, 32, 102, 111, 114, 109, 97, 116])]))

/-- 'laws.FnClass': WHATEVER THE INPUT: true; the input reads as it did. -/
def fnClassSpec : ChangeSpec := { name := "fnClass", vars := ["loop.example/pub-g03433/pub/sfnt.errUnsupportedClassDefFormat", "loop.example/pub-g03433/pub/sfnt.errInvalidBounds"], fn := fun _ => fun
  | [d1, d2, d3, g1, g2] => { results := [.lit (.bool true)], args := [d1, d2, d3], vars := [g1, g2] }
  | _ => none }
def fnClassRow : OpenClaim := { program := "ytbpcmdgfgibbjaadoor", sum := "d385a915412fe5189dc957ecc3be8dcf6c38b2b4df97b7d94f476f34529e9e8c", func := "loop.example/pub-g03433/laws.FnClass", spec := "fnClass", unfollowed := true, recurses := true, named := ["loop.example/pub-g03433/pub/sfnt.errUnsupportedClassDefFormat", "loop.example/pub-g03433/pub/sfnt.errInvalidBounds"], ifaces := true, apart := false, laid := [("loop.example/pub-g03433/pub/sfnt.errInvalidBounds", laid_loop_example_pub_g03433_pub_sfnt_errInvalidBounds), ("loop.example/pub-g03433/pub/sfnt.errUnsupportedClassDefFormat", laid_loop_example_pub_g03433_pub_sfnt_errUnsupportedClassDefFormat)] }
def FnClassSaid : Prop := fnClassRow.holds Tryd.pinned (OpenSpec.ofChange fnClassSpec)

/-- ITS FALSE NEIGHBOUR: 'it returns false'. Refute it at one input. -/
def fnClassWrong : ChangeSpec := { name := "fnClass", vars := ["loop.example/pub-g03433/pub/sfnt.errUnsupportedClassDefFormat", "loop.example/pub-g03433/pub/sfnt.errInvalidBounds"], fn := fun _ => fun
  | [d1, d2, d3, g1, g2] => { results := [.lit (.bool false)], args := [d1, d2, d3], vars := [g1, g2] }
  | _ => none }
def FnClassWrongFalsely : Prop := fnClassRow.holds Tryd.pinned (OpenSpec.ofChange fnClassWrong)

/-- 'laws.FnCoverage': WHATEVER THE INPUT: true; the input reads as it did. -/
def fnCoverageSpec : ChangeSpec := { name := "fnCoverage", vars := ["loop.example/pub-g03433/pub/sfnt.errUnsupportedCoverageFormat", "loop.example/pub-g03433/pub/sfnt.errInvalidBounds"], fn := fun _ => fun
  | [d1, d2, d3, g1, g2] => { results := [.lit (.bool true)], args := [d1, d2, d3], vars := [g1, g2] }
  | _ => none }
def fnCoverageRow : OpenClaim := { program := "ytbpcmdgfgibbjaadoor", sum := "d385a915412fe5189dc957ecc3be8dcf6c38b2b4df97b7d94f476f34529e9e8c", func := "loop.example/pub-g03433/laws.FnCoverage", spec := "fnCoverage", unfollowed := true, recurses := true, named := ["loop.example/pub-g03433/pub/sfnt.errUnsupportedCoverageFormat", "loop.example/pub-g03433/pub/sfnt.errInvalidBounds"], ifaces := true, apart := false, laid := [("loop.example/pub-g03433/pub/sfnt.errInvalidBounds", laid_loop_example_pub_g03433_pub_sfnt_errInvalidBounds), ("loop.example/pub-g03433/pub/sfnt.errUnsupportedCoverageFormat", laid_loop_example_pub_g03433_pub_sfnt_errUnsupportedCoverageFormat)] }
def FnCoverageSaid : Prop := fnCoverageRow.holds Tryd.pinned (OpenSpec.ofChange fnCoverageSpec)

/-- ITS FALSE NEIGHBOUR: 'it returns false'. Refute it at one input. -/
def fnCoverageWrong : ChangeSpec := { name := "fnCoverage", vars := ["loop.example/pub-g03433/pub/sfnt.errUnsupportedCoverageFormat", "loop.example/pub-g03433/pub/sfnt.errInvalidBounds"], fn := fun _ => fun
  | [d1, d2, d3, g1, g2] => { results := [.lit (.bool false)], args := [d1, d2, d3], vars := [g1, g2] }
  | _ => none }
def FnCoverageWrongFalsely : Prop := fnCoverageRow.holds Tryd.pinned (OpenSpec.ofChange fnCoverageWrong)

/- THE SECOND FORM. 'bulk': how many values and letters a reading holds, each counted each time it is reached (what is shared counts as often as it is met; a slice's spare places count too). A statement '..UptoSaid' is the law's where the arguments, and the package variables that the reading takes, are together of bulk at most 1048576: NARROWER than '..Said'. Prove '..Said' where nothing that the law and all that it calls make is longer than what came in: it says more and counts as full. Else prove '..UptoSaid'. A law counts once. -/
mutual
def uptoBulk {H : Type} : DataW H → Nat
  | .lit (.string bytes) => bytes.length + 1
  | .lit _ => 1
  | .nil => 1
  | .ptr d => uptoBulk d + 1
  | .slice elems spare => uptoBulkAll elems + uptoBulkAll spare + 1
  | .agg parts => uptoBulkAll parts + 1
  | .iface _ d => uptoBulk d + 1
  | .map entries => uptoBulkEntries entries + 1
  | .held _ => 1
def uptoBulkAll {H : Type} : List (DataW H) → Nat
  | [] => 0
  | d :: r => uptoBulk d + uptoBulkAll r
def uptoBulkEntries {H : Type} : List (Lit × DataW H) → Nat
  | [] => 0
  | x :: r => uptoBulkEntry x + uptoBulkEntries r
def uptoBulkEntry {H : Type} : Lit × DataW H → Nat
  | (.string bytes, d) => bytes.length + uptoBulk d + 1
  | (_, d) => uptoBulk d + 1
 end
def uptoSmall : (H : Type) → List (DataW H) → Bool := fun _ ds => decide (uptoBulkAll ds ≤ 1048576)
def OpenSpec.upto (s : _root_.Go.ChangeSpec) : _root_.Go.OpenSpec := { _root_.Go.OpenSpec.ofChange s with cond := some uptoSmall }

/-- 'laws.FnClass', WHERE WHAT IT READS IS OF BULK AT MOST 1048576: true; the input reads as it did. -/
def fnClassUptoRow : OpenClaim := { program := "ytbpcmdgfgibbjaadoor", sum := "d385a915412fe5189dc957ecc3be8dcf6c38b2b4df97b7d94f476f34529e9e8c", func := "loop.example/pub-g03433/laws.FnClass", spec := "fnClass", unfollowed := true, recurses := true, named := ["loop.example/pub-g03433/pub/sfnt.errUnsupportedClassDefFormat", "loop.example/pub-g03433/pub/sfnt.errInvalidBounds"], ifaces := true, apart := false, laid := [("loop.example/pub-g03433/pub/sfnt.errInvalidBounds", laid_loop_example_pub_g03433_pub_sfnt_errInvalidBounds), ("loop.example/pub-g03433/pub/sfnt.errUnsupportedClassDefFormat", laid_loop_example_pub_g03433_pub_sfnt_errUnsupportedClassDefFormat)], narrowed := true }
def FnClassUptoSaid : Prop := fnClassUptoRow.holds Tryd.pinned (OpenSpec.upto fnClassSpec)

/-- 'laws.FnCoverage', WHERE WHAT IT READS IS OF BULK AT MOST 1048576: true; the input reads as it did. -/
def fnCoverageUptoRow : OpenClaim := { program := "ytbpcmdgfgibbjaadoor", sum := "d385a915412fe5189dc957ecc3be8dcf6c38b2b4df97b7d94f476f34529e9e8c", func := "loop.example/pub-g03433/laws.FnCoverage", spec := "fnCoverage", unfollowed := true, recurses := true, named := ["loop.example/pub-g03433/pub/sfnt.errUnsupportedCoverageFormat", "loop.example/pub-g03433/pub/sfnt.errInvalidBounds"], ifaces := true, apart := false, laid := [("loop.example/pub-g03433/pub/sfnt.errInvalidBounds", laid_loop_example_pub_g03433_pub_sfnt_errInvalidBounds), ("loop.example/pub-g03433/pub/sfnt.errUnsupportedCoverageFormat", laid_loop_example_pub_g03433_pub_sfnt_errUnsupportedCoverageFormat)], narrowed := true }
def FnCoverageUptoSaid : Prop := fnCoverageUptoRow.holds Tryd.pinned (OpenSpec.upto fnCoverageSpec)

end Rows
end Go.Proofs.YtbpcmdgfgibbjaaDoor
