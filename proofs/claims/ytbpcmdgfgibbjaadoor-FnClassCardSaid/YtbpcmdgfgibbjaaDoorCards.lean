/-
  DERIVED. GIVEN WITH THE SEED: THE CARDS: each row of YtbpcmdgfgibbjaaDoorRows.lean that lists a variable, with what it lists TIED to the program's text (the seventh form; the later family's looks); each row that meets fmt, with fmt's text TOLD by the authors' own Lean function (tested against real Go, not proved from fmt's source: count such statements apart). THE CARD IS WHAT COUNTS. Prove the row's statement (the work); the ties are given (YtbpcmdgfgibbjaaDoorTie.lean); close each card by the builder's one call (the guide's Derived/Test/ToyasCard.lean, 'card_holds'). Laid BY PROGRAM, IN A SANDBOX (cutbox-door.mjs). By AI agents, Wed Nov 11 2026. No macro, syntax, notation, axiom, sorry.
-/
import Derived.Test.YtbpcmdgfgibbjaaDoorRows
import GoSem.ClaimSeven
namespace Go.Proofs.YtbpcmdgfgibbjaaDoor
namespace Rows

/-- THE TIED CARD OF 'laws.FnClass'. -/
def fnClassCard : Claim7 := { stood := { row := fnClassRow, standIns := [], harness := (true, "50e4d36663ea16fd0dd0b3b083811c17d387298b90d9260997407c69fc01f9d1"), looks := false }, kinds := [], alts := [], laidByText := true, laidKinds := [.sentinel, .sentinel], laidTests := true, laidLooks := .later }
def FnClassCardSaid : Prop := Claim7.holds Tryd.pinned (.plain (OpenSpec.ofChange fnClassSpec)) fnClassCard

/-- THE TIED CARD OF 'laws.FnCoverage'. -/
def fnCoverageCard : Claim7 := { stood := { row := fnCoverageRow, standIns := [], harness := (true, "50e4d36663ea16fd0dd0b3b083811c17d387298b90d9260997407c69fc01f9d1"), looks := false }, kinds := [], alts := [], laidByText := true, laidKinds := [.sentinel, .sentinel], laidTests := true, laidLooks := .later }
def FnCoverageCardSaid : Prop := Claim7.holds Tryd.pinned (.plain (OpenSpec.ofChange fnCoverageSpec)) fnCoverageCard

/-- THE SECOND FORM's CARD OF 'laws.FnClass'. -/
def fnClassUptoCard : Claim7 := { stood := { row := fnClassUptoRow, standIns := [], harness := (true, "50e4d36663ea16fd0dd0b3b083811c17d387298b90d9260997407c69fc01f9d1"), looks := false }, kinds := [], alts := [], laidByText := true, laidKinds := [.sentinel, .sentinel], laidTests := true, laidLooks := .later }
def FnClassUptoCardSaid : Prop := Claim7.holds Tryd.pinned (.plain (OpenSpec.upto fnClassSpec)) fnClassUptoCard

/-- THE SECOND FORM's CARD OF 'laws.FnCoverage'. -/
def fnCoverageUptoCard : Claim7 := { stood := { row := fnCoverageUptoRow, standIns := [], harness := (true, "50e4d36663ea16fd0dd0b3b083811c17d387298b90d9260997407c69fc01f9d1"), looks := false }, kinds := [], alts := [], laidByText := true, laidKinds := [.sentinel, .sentinel], laidTests := true, laidLooks := .later }
def FnCoverageUptoCardSaid : Prop := Claim7.holds Tryd.pinned (.plain (OpenSpec.upto fnCoverageSpec)) fnCoverageUptoCard
end Rows
end Go.Proofs.YtbpcmdgfgibbjaaDoor
