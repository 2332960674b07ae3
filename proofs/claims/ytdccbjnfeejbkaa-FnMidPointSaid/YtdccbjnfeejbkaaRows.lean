/-
  No cell of these rows narrows 'for every input' (looked for: loops, veiled, ifaces, maps, wideKeys, modest, calm, conditions, laid).
  DERIVED. THE GIVEN ROWS OF THIS SEAT. 8 by the template 'for every input the law returns true; each argument reads behind the call as it read before'; 0 by the template 'total and deterministic' (their statements: YtdccbjnfeejbkaaTotals.lean).
  GIVEN WITH THE SEED: the statements are not yours to turn. If you find one false, say at which input.
  Laid BY PROGRAM, IN A SANDBOX (cutbox-rows.mjs): the forced cells as the released guide's own fill.sh prints them over the translation 14efa7b3e32609a7… (all of the seat's roots in one cut). By AI agents, Wed Nov 11 2026. No macro, syntax, notation, axiom, sorry.
-/
import Derived.Test.YtdccbjnfeejbkaaChecked
import GoSem.Claim
import GoSem.ClaimJoined
import GoSem.ClaimMapViews
import Derived.JoinedTies
import Derived.KernelRfl
namespace Go.Proofs.Ytdccbjnfeejbkaa
/- THE CELL 'sum', in the pinned program and in every row, IS THE sha256 OF THE DUMP (.gsa) THAT YtdccbjnfeejbkaaProg.lean LOADS. Nothing in Lean hashes anything: it is a label: what it is worth is what the hold of that sum in a sandbox is worth. -/
noncomputable def Try.pinned : Pinned := { name := "ytdccbjnfeejbkaa", sum := "14efa7b3e32609a73a168753d070c08b82a9b3b9a6b19ee6c55e60f577a4f821", checked := Try.checked }
namespace Rows
def none {H : Type} : Left H := { results := [], args := [] }

/-- 'laws.FnMul26': WHATEVER THE INPUT: true; the input reads as it did. -/
def fnMul26Spec : ChangeSpec := { name := "fnMul26", fn := fun _ => fun
  | [d1, d2] => { results := [.lit (.bool true)], args := [d1, d2] }
  | _ => none }
def fnMul26Row : OpenClaim := { program := "ytdccbjnfeejbkaa", sum := "14efa7b3e32609a73a168753d070c08b82a9b3b9a6b19ee6c55e60f577a4f821", func := "loop.example/pub-g03433/laws.FnMul26", spec := "fnMul26", apart := false }
def FnMul26Said : Prop := fnMul26Row.holds Try.pinned (OpenSpec.ofChange fnMul26Spec)

/-- ITS FALSE NEIGHBOUR: 'it returns false'. Refute it at one input. -/
def fnMul26Wrong : ChangeSpec := { name := "fnMul26", fn := fun _ => fun
  | [d1, d2] => { results := [.lit (.bool false)], args := [d1, d2] }
  | _ => none }
def FnMul26WrongFalsely : Prop := fnMul26Row.holds Try.pinned (OpenSpec.ofChange fnMul26Wrong)

/-- 'laws.FnScale': WHATEVER THE INPUT: true; the input reads as it did. -/
def fnScaleSpec : ChangeSpec := { name := "fnScale", fn := fun _ => fun
  | [d1, d2] => { results := [.lit (.bool true)], args := [d1, d2] }
  | _ => none }
def fnScaleRow : OpenClaim := { program := "ytdccbjnfeejbkaa", sum := "14efa7b3e32609a73a168753d070c08b82a9b3b9a6b19ee6c55e60f577a4f821", func := "loop.example/pub-g03433/laws.FnScale", spec := "fnScale", apart := false }
def FnScaleSaid : Prop := fnScaleRow.holds Try.pinned (OpenSpec.ofChange fnScaleSpec)

/-- ITS FALSE NEIGHBOUR: 'it returns false'. Refute it at one input. -/
def fnScaleWrong : ChangeSpec := { name := "fnScale", fn := fun _ => fun
  | [d1, d2] => { results := [.lit (.bool false)], args := [d1, d2] }
  | _ => none }
def FnScaleWrongFalsely : Prop := fnScaleRow.holds Try.pinned (OpenSpec.ofChange fnScaleWrong)

/-- 'laws.FnEmpty': WHATEVER THE INPUT: true; the input reads as it did. -/
def fnEmptySpec : ChangeSpec := { name := "fnEmpty", fn := fun _ => fun
  | [d1, d2, d3, d4] => { results := [.lit (.bool true)], args := [d1, d2, d3, d4] }
  | _ => none }
def fnEmptyRow : OpenClaim := { program := "ytdccbjnfeejbkaa", sum := "14efa7b3e32609a73a168753d070c08b82a9b3b9a6b19ee6c55e60f577a4f821", func := "loop.example/pub-g03433/laws.FnEmpty", spec := "fnEmpty", apart := false }
def FnEmptySaid : Prop := fnEmptyRow.holds Try.pinned (OpenSpec.ofChange fnEmptySpec)

/-- ITS FALSE NEIGHBOUR: 'it returns false'. Refute it at one input. -/
def fnEmptyWrong : ChangeSpec := { name := "fnEmpty", fn := fun _ => fun
  | [d1, d2, d3, d4] => { results := [.lit (.bool false)], args := [d1, d2, d3, d4] }
  | _ => none }
def FnEmptyWrongFalsely : Prop := fnEmptyRow.holds Try.pinned (OpenSpec.ofChange fnEmptyWrong)

/-- 'laws.FnPointIn': WHATEVER THE INPUT: true; the input reads as it did. -/
def fnPointInSpec : ChangeSpec := { name := "fnPointIn", fn := fun _ => fun
  | [d1, d2, d3, d4, d5, d6] => { results := [.lit (.bool true)], args := [d1, d2, d3, d4, d5, d6] }
  | _ => none }
def fnPointInRow : OpenClaim := { program := "ytdccbjnfeejbkaa", sum := "14efa7b3e32609a73a168753d070c08b82a9b3b9a6b19ee6c55e60f577a4f821", func := "loop.example/pub-g03433/laws.FnPointIn", spec := "fnPointIn", apart := false }
def FnPointInSaid : Prop := fnPointInRow.holds Try.pinned (OpenSpec.ofChange fnPointInSpec)

/-- ITS FALSE NEIGHBOUR: 'it returns false'. Refute it at one input. -/
def fnPointInWrong : ChangeSpec := { name := "fnPointIn", fn := fun _ => fun
  | [d1, d2, d3, d4, d5, d6] => { results := [.lit (.bool false)], args := [d1, d2, d3, d4, d5, d6] }
  | _ => none }
def FnPointInWrongFalsely : Prop := fnPointInRow.holds Try.pinned (OpenSpec.ofChange fnPointInWrong)

/-- 'laws.FnWhole26': WHATEVER THE INPUT: true; the input reads as it did. -/
def fnWhole26Spec : ChangeSpec := { name := "fnWhole26", fn := fun _ => fun
  | [d] => { results := [.lit (.bool true)], args := [d] }
  | _ => none }
def fnWhole26Row : OpenClaim := { program := "ytdccbjnfeejbkaa", sum := "14efa7b3e32609a73a168753d070c08b82a9b3b9a6b19ee6c55e60f577a4f821", func := "loop.example/pub-g03433/laws.FnWhole26", spec := "fnWhole26", apart := false }
def FnWhole26Said : Prop := fnWhole26Row.holds Try.pinned (OpenSpec.ofChange fnWhole26Spec)

/-- ITS FALSE NEIGHBOUR: 'it returns false'. Refute it at one input. -/
def fnWhole26Wrong : ChangeSpec := { name := "fnWhole26", fn := fun _ => fun
  | [d] => { results := [.lit (.bool false)], args := [d] }
  | _ => none }
def FnWhole26WrongFalsely : Prop := fnWhole26Row.holds Try.pinned (OpenSpec.ofChange fnWhole26Wrong)

/-- 'laws.FnWhole52': WHATEVER THE INPUT: true; the input reads as it did. -/
def fnWhole52Spec : ChangeSpec := { name := "fnWhole52", fn := fun _ => fun
  | [d] => { results := [.lit (.bool true)], args := [d] }
  | _ => none }
def fnWhole52Row : OpenClaim := { program := "ytdccbjnfeejbkaa", sum := "14efa7b3e32609a73a168753d070c08b82a9b3b9a6b19ee6c55e60f577a4f821", func := "loop.example/pub-g03433/laws.FnWhole52", spec := "fnWhole52", apart := false }
def FnWhole52Said : Prop := fnWhole52Row.holds Try.pinned (OpenSpec.ofChange fnWhole52Spec)

/-- ITS FALSE NEIGHBOUR: 'it returns false'. Refute it at one input. -/
def fnWhole52Wrong : ChangeSpec := { name := "fnWhole52", fn := fun _ => fun
  | [d] => { results := [.lit (.bool false)], args := [d] }
  | _ => none }
def FnWhole52WrongFalsely : Prop := fnWhole52Row.holds Try.pinned (OpenSpec.ofChange fnWhole52Wrong)

/-- 'laws.FnSubrBias': WHATEVER THE INPUT: true; the input reads as it did. -/
def fnSubrBiasSpec : ChangeSpec := { name := "fnSubrBias", fn := fun _ => fun
  | [d] => { results := [.lit (.bool true)], args := [d] }
  | _ => none }
def fnSubrBiasRow : OpenClaim := { program := "ytdccbjnfeejbkaa", sum := "14efa7b3e32609a73a168753d070c08b82a9b3b9a6b19ee6c55e60f577a4f821", func := "loop.example/pub-g03433/laws.FnSubrBias", spec := "fnSubrBias", apart := false }
def FnSubrBiasSaid : Prop := fnSubrBiasRow.holds Try.pinned (OpenSpec.ofChange fnSubrBiasSpec)

/-- ITS FALSE NEIGHBOUR: 'it returns false'. Refute it at one input. -/
def fnSubrBiasWrong : ChangeSpec := { name := "fnSubrBias", fn := fun _ => fun
  | [d] => { results := [.lit (.bool false)], args := [d] }
  | _ => none }
def FnSubrBiasWrongFalsely : Prop := fnSubrBiasRow.holds Try.pinned (OpenSpec.ofChange fnSubrBiasWrong)

/-- 'laws.FnMidPoint': WHATEVER THE INPUT: true; the input reads as it did. -/
def fnMidPointSpec : ChangeSpec := { name := "fnMidPoint", fn := fun _ => fun
  | [d1, d2, d3, d4] => { results := [.lit (.bool true)], args := [d1, d2, d3, d4] }
  | _ => none }
def fnMidPointRow : OpenClaim := { program := "ytdccbjnfeejbkaa", sum := "14efa7b3e32609a73a168753d070c08b82a9b3b9a6b19ee6c55e60f577a4f821", func := "loop.example/pub-g03433/laws.FnMidPoint", spec := "fnMidPoint", apart := false }
def FnMidPointSaid : Prop := fnMidPointRow.holds Try.pinned (OpenSpec.ofChange fnMidPointSpec)

/-- ITS FALSE NEIGHBOUR: 'it returns false'. Refute it at one input. -/
def fnMidPointWrong : ChangeSpec := { name := "fnMidPoint", fn := fun _ => fun
  | [d1, d2, d3, d4] => { results := [.lit (.bool false)], args := [d1, d2, d3, d4] }
  | _ => none }
def FnMidPointWrongFalsely : Prop := fnMidPointRow.holds Try.pinned (OpenSpec.ofChange fnMidPointWrong)

/- THE SECOND FORM. 'bulk': how many values and letters a reading holds, each counted each time it is reached (what is shared counts as often as it is met; a slice's spare places count too). A statement '..UptoSaid' is the law's where the arguments, and the package variables that the reading takes, are together of bulk at most 1048576: NARROWER than '..Said'. Prove '..Said' where nothing that the law and all that it calls make is longer than what came in: it says more and counts as full. Else prove '..UptoSaid'. A law counts once. -/
mutual
def uptoBulk {H : Type} : DataW H → Nat
  | .lit (.string bytes) => bytes.length + 1
  | .lit _ => 1
  | .nil => 1
  | .ptr d => uptoBulk d + 1
  | .slice elems spare => uptoBulkAll elems + uptoBulkAll spare + 1
  | .agg parts => uptoBulkAll parts + 1
  | .iface _ d => uptoBulk d + 1
  | .map entries => uptoBulkEntries entries + 1
  | .held _ => 1
def uptoBulkAll {H : Type} : List (DataW H) → Nat
  | [] => 0
  | d :: r => uptoBulk d + uptoBulkAll r
def uptoBulkEntries {H : Type} : List (Lit × DataW H) → Nat
  | [] => 0
  | x :: r => uptoBulkEntry x + uptoBulkEntries r
def uptoBulkEntry {H : Type} : Lit × DataW H → Nat
  | (.string bytes, d) => bytes.length + uptoBulk d + 1
  | (_, d) => uptoBulk d + 1
 end
def uptoSmall : (H : Type) → List (DataW H) → Bool := fun _ ds => decide (uptoBulkAll ds ≤ 1048576)
def OpenSpec.upto (s : _root_.Go.ChangeSpec) : _root_.Go.OpenSpec := { _root_.Go.OpenSpec.ofChange s with cond := some uptoSmall }

/-- 'laws.FnMul26', WHERE WHAT IT READS IS OF BULK AT MOST 1048576: true; the input reads as it did. -/
def fnMul26UptoRow : OpenClaim := { program := "ytdccbjnfeejbkaa", sum := "14efa7b3e32609a73a168753d070c08b82a9b3b9a6b19ee6c55e60f577a4f821", func := "loop.example/pub-g03433/laws.FnMul26", spec := "fnMul26", apart := false, narrowed := true }
def FnMul26UptoSaid : Prop := fnMul26UptoRow.holds Try.pinned (OpenSpec.upto fnMul26Spec)

/-- 'laws.FnScale', WHERE WHAT IT READS IS OF BULK AT MOST 1048576: true; the input reads as it did. -/
def fnScaleUptoRow : OpenClaim := { program := "ytdccbjnfeejbkaa", sum := "14efa7b3e32609a73a168753d070c08b82a9b3b9a6b19ee6c55e60f577a4f821", func := "loop.example/pub-g03433/laws.FnScale", spec := "fnScale", apart := false, narrowed := true }
def FnScaleUptoSaid : Prop := fnScaleUptoRow.holds Try.pinned (OpenSpec.upto fnScaleSpec)

/-- 'laws.FnEmpty', WHERE WHAT IT READS IS OF BULK AT MOST 1048576: true; the input reads as it did. -/
def fnEmptyUptoRow : OpenClaim := { program := "ytdccbjnfeejbkaa", sum := "14efa7b3e32609a73a168753d070c08b82a9b3b9a6b19ee6c55e60f577a4f821", func := "loop.example/pub-g03433/laws.FnEmpty", spec := "fnEmpty", apart := false, narrowed := true }
def FnEmptyUptoSaid : Prop := fnEmptyUptoRow.holds Try.pinned (OpenSpec.upto fnEmptySpec)

/-- 'laws.FnPointIn', WHERE WHAT IT READS IS OF BULK AT MOST 1048576: true; the input reads as it did. -/
def fnPointInUptoRow : OpenClaim := { program := "ytdccbjnfeejbkaa", sum := "14efa7b3e32609a73a168753d070c08b82a9b3b9a6b19ee6c55e60f577a4f821", func := "loop.example/pub-g03433/laws.FnPointIn", spec := "fnPointIn", apart := false, narrowed := true }
def FnPointInUptoSaid : Prop := fnPointInUptoRow.holds Try.pinned (OpenSpec.upto fnPointInSpec)

/-- 'laws.FnWhole26', WHERE WHAT IT READS IS OF BULK AT MOST 1048576: true; the input reads as it did. -/
def fnWhole26UptoRow : OpenClaim := { program := "ytdccbjnfeejbkaa", sum := "14efa7b3e32609a73a168753d070c08b82a9b3b9a6b19ee6c55e60f577a4f821", func := "loop.example/pub-g03433/laws.FnWhole26", spec := "fnWhole26", apart := false, narrowed := true }
def FnWhole26UptoSaid : Prop := fnWhole26UptoRow.holds Try.pinned (OpenSpec.upto fnWhole26Spec)

/-- 'laws.FnWhole52', WHERE WHAT IT READS IS OF BULK AT MOST 1048576: true; the input reads as it did. -/
def fnWhole52UptoRow : OpenClaim := { program := "ytdccbjnfeejbkaa", sum := "14efa7b3e32609a73a168753d070c08b82a9b3b9a6b19ee6c55e60f577a4f821", func := "loop.example/pub-g03433/laws.FnWhole52", spec := "fnWhole52", apart := false, narrowed := true }
def FnWhole52UptoSaid : Prop := fnWhole52UptoRow.holds Try.pinned (OpenSpec.upto fnWhole52Spec)

/-- 'laws.FnSubrBias', WHERE WHAT IT READS IS OF BULK AT MOST 1048576: true; the input reads as it did. -/
def fnSubrBiasUptoRow : OpenClaim := { program := "ytdccbjnfeejbkaa", sum := "14efa7b3e32609a73a168753d070c08b82a9b3b9a6b19ee6c55e60f577a4f821", func := "loop.example/pub-g03433/laws.FnSubrBias", spec := "fnSubrBias", apart := false, narrowed := true }
def FnSubrBiasUptoSaid : Prop := fnSubrBiasUptoRow.holds Try.pinned (OpenSpec.upto fnSubrBiasSpec)

/-- 'laws.FnMidPoint', WHERE WHAT IT READS IS OF BULK AT MOST 1048576: true; the input reads as it did. -/
def fnMidPointUptoRow : OpenClaim := { program := "ytdccbjnfeejbkaa", sum := "14efa7b3e32609a73a168753d070c08b82a9b3b9a6b19ee6c55e60f577a4f821", func := "loop.example/pub-g03433/laws.FnMidPoint", spec := "fnMidPoint", apart := false, narrowed := true }
def FnMidPointUptoSaid : Prop := fnMidPointUptoRow.holds Try.pinned (OpenSpec.upto fnMidPointSpec)

end Rows
end Go.Proofs.Ytdccbjnfeejbkaa
