/-
  DERIVED. GIVEN WITH THE SEED: THE CARDS: each row of YtdeaodgcdacleaaDoorRows.lean that lists a variable, with what it lists TIED to the program's text (the seventh form; the later family's looks); each row that meets fmt, with fmt's text TOLD by the authors' own Lean function (tested against real Go, not proved from fmt's source: count such statements apart). THE CARD IS WHAT COUNTS. Prove the row's statement (the work); the ties are given (YtdeaodgcdacleaaDoorTie.lean); close each card by the builder's one call (the guide's Derived/Test/ToyasCard.lean, 'card_holds'). Laid BY PROGRAM, IN A SANDBOX (cutbox-door.mjs). By AI agents, Wed Nov 11 2026. No macro, syntax, notation, axiom, sorry.
-/
import Derived.Test.YtdeaodgcdacleaaDoorRows
import GoSem.ClaimSeven
namespace Go.Proofs.YtdeaodgcdacleaaDoor
namespace Rows

/-- THE TIED CARD OF 'laws.FnGlyf'. -/
def fnGlyfCard : Claim7 := { stood := { row := fnGlyfRow, standIns := [], harness := (true, "d5cda1d36011a0218fb02d9aa1e00032b60cee6379a7a89c0f8ecb4034d1765d"), looks := true }, kinds := [], alts := [], laidByText := true, laidKinds := [.sentinel, .sentinel, .sentinel, .sentinel, .sentinel, .sentinel, .sentinel], laidTests := true, laidLooks := .later }
def FnGlyfCardSaid : Prop := Claim7.holds Tryd.pinned (.plain (OpenSpec.ofChange fnGlyfSpec)) fnGlyfCard

/-- THE TIED CARD OF 'laws.FnGlyfWays'. -/
def fnGlyfWaysCard : Claim7 := { stood := { row := fnGlyfWaysRow, standIns := [], harness := (true, "d5cda1d36011a0218fb02d9aa1e00032b60cee6379a7a89c0f8ecb4034d1765d"), looks := true }, kinds := [], alts := [], laidByText := true, laidKinds := [.sentinel, .sentinel, .sentinel, .sentinel, .sentinel, .sentinel, .sentinel], laidTests := true, laidLooks := .later }
def FnGlyfWaysCardSaid : Prop := Claim7.holds Tryd.pinned (.plain (OpenSpec.ofChange fnGlyfWaysSpec)) fnGlyfWaysCard

/-- THE SECOND FORM's CARD OF 'laws.FnGlyf'. -/
def fnGlyfUptoCard : Claim7 := { stood := { row := fnGlyfUptoRow, standIns := [], harness := (true, "d5cda1d36011a0218fb02d9aa1e00032b60cee6379a7a89c0f8ecb4034d1765d"), looks := true }, kinds := [], alts := [], laidByText := true, laidKinds := [.sentinel, .sentinel, .sentinel, .sentinel, .sentinel, .sentinel, .sentinel], laidTests := true, laidLooks := .later }
def FnGlyfUptoCardSaid : Prop := Claim7.holds Tryd.pinned (.plain (OpenSpec.upto fnGlyfSpec)) fnGlyfUptoCard

/-- THE SECOND FORM's CARD OF 'laws.FnGlyfWays'. -/
def fnGlyfWaysUptoCard : Claim7 := { stood := { row := fnGlyfWaysUptoRow, standIns := [], harness := (true, "d5cda1d36011a0218fb02d9aa1e00032b60cee6379a7a89c0f8ecb4034d1765d"), looks := true }, kinds := [], alts := [], laidByText := true, laidKinds := [.sentinel, .sentinel, .sentinel, .sentinel, .sentinel, .sentinel, .sentinel], laidTests := true, laidLooks := .later }
def FnGlyfWaysUptoCardSaid : Prop := Claim7.holds Tryd.pinned (.plain (OpenSpec.upto fnGlyfWaysSpec)) fnGlyfWaysUptoCard
end Rows
end Go.Proofs.YtdeaodgcdacleaaDoor
