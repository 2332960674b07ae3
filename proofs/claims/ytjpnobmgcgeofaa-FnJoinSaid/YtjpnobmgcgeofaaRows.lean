/-
  No cell of these rows narrows 'for every input' (looked for: loops, veiled, ifaces, maps, wideKeys, modest, calm, conditions, laid).
  DERIVED. THE GIVEN ROWS OF THIS SEAT. 8 by the template 'for every input the law returns true; each argument reads behind the call as it read before'; 0 by the template 'total and deterministic' (their statements: YtjpnobmgcgeofaaTotals.lean).
  GIVEN WITH THE SEED: the statements are not yours to turn. If you find one false, say at which input.
  Laid BY PROGRAM, IN A SANDBOX (cutbox-rows.mjs): the forced cells as the released guide's own fill.sh prints them over the translation 38cc8492dacf8270… (all of the seat's roots in one cut). By AI agents, Wed Nov 11 2026. No macro, syntax, notation, axiom, sorry.
-/
import Derived.Test.YtjpnobmgcgeofaaChecked
import GoSem.Claim
import GoSem.ClaimJoined
import GoSem.ClaimMapViews
import Derived.JoinedTies
import Derived.KernelRfl
namespace Go.Proofs.Ytjpnobmgcgeofaa
/- THE CELL 'sum', in the pinned program and in every row, IS THE sha256 OF THE DUMP (.gsa) THAT YtjpnobmgcgeofaaProg.lean LOADS. Nothing in Lean hashes anything: it is a label: what it is worth is what the hold of that sum in a sandbox is worth. -/
noncomputable def Try.pinned : Pinned := { name := "ytjpnobmgcgeofaa", sum := "38cc8492dacf827087231bdc489b44461641b72859602a7e1f0f3d87f704156e", checked := Try.checked }
namespace Rows
def none {H : Type} : Left H := { results := [], args := [] }

/-- 'laws.FnSupported': WHATEVER THE INPUT: true; the input reads as it did. -/
def fnSupportedSpec : ChangeSpec := { name := "fnSupported", fn := fun _ => fun
  | [d1, d2, d3] => { results := [.lit (.bool true)], args := [d1, d2, d3] }
  | _ => none }
def fnSupportedRow : OpenClaim := { program := "ytjpnobmgcgeofaa", sum := "38cc8492dacf827087231bdc489b44461641b72859602a7e1f0f3d87f704156e", func := "loop.example/pub-g03433/laws.FnSupported", spec := "fnSupported", apart := false }
def FnSupportedSaid : Prop := fnSupportedRow.holds Try.pinned (OpenSpec.ofChange fnSupportedSpec)

/-- ITS FALSE NEIGHBOUR: 'it returns false'. Refute it at one input. -/
def fnSupportedWrong : ChangeSpec := { name := "fnSupported", fn := fun _ => fun
  | [d1, d2, d3] => { results := [.lit (.bool false)], args := [d1, d2, d3] }
  | _ => none }
def FnSupportedWrongFalsely : Prop := fnSupportedRow.holds Try.pinned (OpenSpec.ofChange fnSupportedWrong)

/-- 'laws.FnPoint': WHATEVER THE INPUT: true; the input reads as it did. -/
def fnPointSpec : ChangeSpec := { name := "fnPoint", fn := fun _ => fun
  | [d1, d2, d3] => { results := [.lit (.bool true)], args := [d1, d2, d3] }
  | _ => none }
def fnPointRow : OpenClaim := { program := "ytjpnobmgcgeofaa", sum := "38cc8492dacf827087231bdc489b44461641b72859602a7e1f0f3d87f704156e", func := "loop.example/pub-g03433/laws.FnPoint", spec := "fnPoint", apart := false }
def FnPointSaid : Prop := fnPointRow.holds Try.pinned (OpenSpec.ofChange fnPointSpec)

/-- ITS FALSE NEIGHBOUR: 'it returns false'. Refute it at one input. -/
def fnPointWrong : ChangeSpec := { name := "fnPoint", fn := fun _ => fun
  | [d1, d2, d3] => { results := [.lit (.bool false)], args := [d1, d2, d3] }
  | _ => none }
def FnPointWrongFalsely : Prop := fnPointRow.holds Try.pinned (OpenSpec.ofChange fnPointWrong)

/-- 'laws.FnInside': WHATEVER THE INPUT: true; the input reads as it did. -/
def fnInsideSpec : ChangeSpec := { name := "fnInside", fn := fun _ => fun
  | [d1, d2, d3, d4, d5, d6, d7, d8] => { results := [.lit (.bool true)], args := [d1, d2, d3, d4, d5, d6, d7, d8] }
  | _ => none }
def fnInsideRow : OpenClaim := { program := "ytjpnobmgcgeofaa", sum := "38cc8492dacf827087231bdc489b44461641b72859602a7e1f0f3d87f704156e", func := "loop.example/pub-g03433/laws.FnInside", spec := "fnInside", apart := false }
def FnInsideSaid : Prop := fnInsideRow.holds Try.pinned (OpenSpec.ofChange fnInsideSpec)

/-- ITS FALSE NEIGHBOUR: 'it returns false'. Refute it at one input. -/
def fnInsideWrong : ChangeSpec := { name := "fnInside", fn := fun _ => fun
  | [d1, d2, d3, d4, d5, d6, d7, d8] => { results := [.lit (.bool false)], args := [d1, d2, d3, d4, d5, d6, d7, d8] }
  | _ => none }
def FnInsideWrongFalsely : Prop := fnInsideRow.holds Try.pinned (OpenSpec.ofChange fnInsideWrong)

/-- 'laws.FnTransform': WHATEVER THE INPUT: true; the input reads as it did. -/
def fnTransformSpec : ChangeSpec := { name := "fnTransform", fn := fun _ => fun
  | [d1, d2, d3, d4, d5, d6, d7, d8] => { results := [.lit (.bool true)], args := [d1, d2, d3, d4, d5, d6, d7, d8] }
  | _ => none }
def fnTransformRow : OpenClaim := { program := "ytjpnobmgcgeofaa", sum := "38cc8492dacf827087231bdc489b44461641b72859602a7e1f0f3d87f704156e", func := "loop.example/pub-g03433/laws.FnTransform", spec := "fnTransform", unfollowed := true, recurses := true, apart := false }
def FnTransformSaid : Prop := fnTransformRow.holds Try.pinned (OpenSpec.ofChange fnTransformSpec)

/-- ITS FALSE NEIGHBOUR: 'it returns false'. Refute it at one input. -/
def fnTransformWrong : ChangeSpec := { name := "fnTransform", fn := fun _ => fun
  | [d1, d2, d3, d4, d5, d6, d7, d8] => { results := [.lit (.bool false)], args := [d1, d2, d3, d4, d5, d6, d7, d8] }
  | _ => none }
def FnTransformWrongFalsely : Prop := fnTransformRow.holds Try.pinned (OpenSpec.ofChange fnTransformWrong)

/-- 'laws.FnMul52': WHATEVER THE INPUT: true; the input reads as it did. -/
def fnMul52Spec : ChangeSpec := { name := "fnMul52", fn := fun _ => fun
  | [d1, d2] => { results := [.lit (.bool true)], args := [d1, d2] }
  | _ => none }
def fnMul52Row : OpenClaim := { program := "ytjpnobmgcgeofaa", sum := "38cc8492dacf827087231bdc489b44461641b72859602a7e1f0f3d87f704156e", func := "loop.example/pub-g03433/laws.FnMul52", spec := "fnMul52", apart := false }
def FnMul52Said : Prop := fnMul52Row.holds Try.pinned (OpenSpec.ofChange fnMul52Spec)

/-- ITS FALSE NEIGHBOUR: 'it returns false'. Refute it at one input. -/
def fnMul52Wrong : ChangeSpec := { name := "fnMul52", fn := fun _ => fun
  | [d1, d2] => { results := [.lit (.bool false)], args := [d1, d2] }
  | _ => none }
def FnMul52WrongFalsely : Prop := fnMul52Row.holds Try.pinned (OpenSpec.ofChange fnMul52Wrong)

/-- 'laws.FnWidth': WHATEVER THE INPUT: true; the input reads as it did. -/
def fnWidthSpec : ChangeSpec := { name := "fnWidth", fn := fun _ => fun
  | [d1, d2] => { results := [.lit (.bool true)], args := [d1, d2] }
  | _ => none }
def fnWidthRow : OpenClaim := { program := "ytjpnobmgcgeofaa", sum := "38cc8492dacf827087231bdc489b44461641b72859602a7e1f0f3d87f704156e", func := "loop.example/pub-g03433/laws.FnWidth", spec := "fnWidth", apart := false }
def FnWidthSaid : Prop := fnWidthRow.holds Try.pinned (OpenSpec.ofChange fnWidthSpec)

/-- ITS FALSE NEIGHBOUR: 'it returns false'. Refute it at one input. -/
def fnWidthWrong : ChangeSpec := { name := "fnWidth", fn := fun _ => fun
  | [d1, d2] => { results := [.lit (.bool false)], args := [d1, d2] }
  | _ => none }
def FnWidthWrongFalsely : Prop := fnWidthRow.holds Try.pinned (OpenSpec.ofChange fnWidthWrong)

/-- 'laws.FnMeet': WHATEVER THE INPUT: true; the input reads as it did. -/
def fnMeetSpec : ChangeSpec := { name := "fnMeet", fn := fun _ => fun
  | [d1, d2, d3, d4, d5, d6, d7, d8, d9, d10] => { results := [.lit (.bool true)], args := [d1, d2, d3, d4, d5, d6, d7, d8, d9, d10] }
  | _ => none }
def fnMeetRow : OpenClaim := { program := "ytjpnobmgcgeofaa", sum := "38cc8492dacf827087231bdc489b44461641b72859602a7e1f0f3d87f704156e", func := "loop.example/pub-g03433/laws.FnMeet", spec := "fnMeet", apart := false }
def FnMeetSaid : Prop := fnMeetRow.holds Try.pinned (OpenSpec.ofChange fnMeetSpec)

/-- ITS FALSE NEIGHBOUR: 'it returns false'. Refute it at one input. -/
def fnMeetWrong : ChangeSpec := { name := "fnMeet", fn := fun _ => fun
  | [d1, d2, d3, d4, d5, d6, d7, d8, d9, d10] => { results := [.lit (.bool false)], args := [d1, d2, d3, d4, d5, d6, d7, d8, d9, d10] }
  | _ => none }
def FnMeetWrongFalsely : Prop := fnMeetRow.holds Try.pinned (OpenSpec.ofChange fnMeetWrong)

/-- 'laws.FnJoin': WHATEVER THE INPUT: true; the input reads as it did. -/
def fnJoinSpec : ChangeSpec := { name := "fnJoin", fn := fun _ => fun
  | [d1, d2, d3, d4, d5, d6, d7, d8] => { results := [.lit (.bool true)], args := [d1, d2, d3, d4, d5, d6, d7, d8] }
  | _ => none }
def fnJoinRow : OpenClaim := { program := "ytjpnobmgcgeofaa", sum := "38cc8492dacf827087231bdc489b44461641b72859602a7e1f0f3d87f704156e", func := "loop.example/pub-g03433/laws.FnJoin", spec := "fnJoin", apart := false }
def FnJoinSaid : Prop := fnJoinRow.holds Try.pinned (OpenSpec.ofChange fnJoinSpec)

/-- ITS FALSE NEIGHBOUR: 'it returns false'. Refute it at one input. -/
def fnJoinWrong : ChangeSpec := { name := "fnJoin", fn := fun _ => fun
  | [d1, d2, d3, d4, d5, d6, d7, d8] => { results := [.lit (.bool false)], args := [d1, d2, d3, d4, d5, d6, d7, d8] }
  | _ => none }
def FnJoinWrongFalsely : Prop := fnJoinRow.holds Try.pinned (OpenSpec.ofChange fnJoinWrong)

/- THE SECOND FORM. 'bulk': how many values and letters a reading holds, each counted each time it is reached (what is shared counts as often as it is met; a slice's spare places count too). A statement '..UptoSaid' is the law's where the arguments, and the package variables that the reading takes, are together of bulk at most 1048576: NARROWER than '..Said'. Prove '..Said' where nothing that the law and all that it calls make is longer than what came in: it says more and counts as full. Else prove '..UptoSaid'. A law counts once. -/
mutual
def uptoBulk {H : Type} : DataW H → Nat
  | .lit (.string bytes) => bytes.length + 1
  | .lit _ => 1
  | .nil => 1
  | .ptr d => uptoBulk d + 1
  | .slice elems spare => uptoBulkAll elems + uptoBulkAll spare + 1
  | .agg parts => uptoBulkAll parts + 1
  | .iface _ d => uptoBulk d + 1
  | .map entries => uptoBulkEntries entries + 1
  | .held _ => 1
def uptoBulkAll {H : Type} : List (DataW H) → Nat
  | [] => 0
  | d :: r => uptoBulk d + uptoBulkAll r
def uptoBulkEntries {H : Type} : List (Lit × DataW H) → Nat
  | [] => 0
  | x :: r => uptoBulkEntry x + uptoBulkEntries r
def uptoBulkEntry {H : Type} : Lit × DataW H → Nat
  | (.string bytes, d) => bytes.length + uptoBulk d + 1
  | (_, d) => uptoBulk d + 1
 end
def uptoSmall : (H : Type) → List (DataW H) → Bool := fun _ ds => decide (uptoBulkAll ds ≤ 1048576)
def OpenSpec.upto (s : _root_.Go.ChangeSpec) : _root_.Go.OpenSpec := { _root_.Go.OpenSpec.ofChange s with cond := some uptoSmall }

/-- 'laws.FnSupported', WHERE WHAT IT READS IS OF BULK AT MOST 1048576: true; the input reads as it did. -/
def fnSupportedUptoRow : OpenClaim := { program := "ytjpnobmgcgeofaa", sum := "38cc8492dacf827087231bdc489b44461641b72859602a7e1f0f3d87f704156e", func := "loop.example/pub-g03433/laws.FnSupported", spec := "fnSupported", apart := false, narrowed := true }
def FnSupportedUptoSaid : Prop := fnSupportedUptoRow.holds Try.pinned (OpenSpec.upto fnSupportedSpec)

/-- 'laws.FnPoint', WHERE WHAT IT READS IS OF BULK AT MOST 1048576: true; the input reads as it did. -/
def fnPointUptoRow : OpenClaim := { program := "ytjpnobmgcgeofaa", sum := "38cc8492dacf827087231bdc489b44461641b72859602a7e1f0f3d87f704156e", func := "loop.example/pub-g03433/laws.FnPoint", spec := "fnPoint", apart := false, narrowed := true }
def FnPointUptoSaid : Prop := fnPointUptoRow.holds Try.pinned (OpenSpec.upto fnPointSpec)

/-- 'laws.FnInside', WHERE WHAT IT READS IS OF BULK AT MOST 1048576: true; the input reads as it did. -/
def fnInsideUptoRow : OpenClaim := { program := "ytjpnobmgcgeofaa", sum := "38cc8492dacf827087231bdc489b44461641b72859602a7e1f0f3d87f704156e", func := "loop.example/pub-g03433/laws.FnInside", spec := "fnInside", apart := false, narrowed := true }
def FnInsideUptoSaid : Prop := fnInsideUptoRow.holds Try.pinned (OpenSpec.upto fnInsideSpec)

/-- 'laws.FnTransform', WHERE WHAT IT READS IS OF BULK AT MOST 1048576: true; the input reads as it did. -/
def fnTransformUptoRow : OpenClaim := { program := "ytjpnobmgcgeofaa", sum := "38cc8492dacf827087231bdc489b44461641b72859602a7e1f0f3d87f704156e", func := "loop.example/pub-g03433/laws.FnTransform", spec := "fnTransform", unfollowed := true, recurses := true, apart := false, narrowed := true }
def FnTransformUptoSaid : Prop := fnTransformUptoRow.holds Try.pinned (OpenSpec.upto fnTransformSpec)

/-- 'laws.FnMul52', WHERE WHAT IT READS IS OF BULK AT MOST 1048576: true; the input reads as it did. -/
def fnMul52UptoRow : OpenClaim := { program := "ytjpnobmgcgeofaa", sum := "38cc8492dacf827087231bdc489b44461641b72859602a7e1f0f3d87f704156e", func := "loop.example/pub-g03433/laws.FnMul52", spec := "fnMul52", apart := false, narrowed := true }
def FnMul52UptoSaid : Prop := fnMul52UptoRow.holds Try.pinned (OpenSpec.upto fnMul52Spec)

/-- 'laws.FnWidth', WHERE WHAT IT READS IS OF BULK AT MOST 1048576: true; the input reads as it did. -/
def fnWidthUptoRow : OpenClaim := { program := "ytjpnobmgcgeofaa", sum := "38cc8492dacf827087231bdc489b44461641b72859602a7e1f0f3d87f704156e", func := "loop.example/pub-g03433/laws.FnWidth", spec := "fnWidth", apart := false, narrowed := true }
def FnWidthUptoSaid : Prop := fnWidthUptoRow.holds Try.pinned (OpenSpec.upto fnWidthSpec)

/-- 'laws.FnMeet', WHERE WHAT IT READS IS OF BULK AT MOST 1048576: true; the input reads as it did. -/
def fnMeetUptoRow : OpenClaim := { program := "ytjpnobmgcgeofaa", sum := "38cc8492dacf827087231bdc489b44461641b72859602a7e1f0f3d87f704156e", func := "loop.example/pub-g03433/laws.FnMeet", spec := "fnMeet", apart := false, narrowed := true }
def FnMeetUptoSaid : Prop := fnMeetUptoRow.holds Try.pinned (OpenSpec.upto fnMeetSpec)

/-- 'laws.FnJoin', WHERE WHAT IT READS IS OF BULK AT MOST 1048576: true; the input reads as it did. -/
def fnJoinUptoRow : OpenClaim := { program := "ytjpnobmgcgeofaa", sum := "38cc8492dacf827087231bdc489b44461641b72859602a7e1f0f3d87f704156e", func := "loop.example/pub-g03433/laws.FnJoin", spec := "fnJoin", apart := false, narrowed := true }
def FnJoinUptoSaid : Prop := fnJoinUptoRow.holds Try.pinned (OpenSpec.upto fnJoinSpec)

end Rows
end Go.Proofs.Ytjpnobmgcgeofaa
