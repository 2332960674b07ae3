/-
  DERIVED. GIVEN WITH THE SEED: THE CARDS: each row of YtofidkkihkgagaaDoorRows.lean that lists a variable, with what it lists TIED to the program's text (the seventh form; the later family's looks); each row that meets fmt, with fmt's text TOLD by the authors' own Lean function (tested against real Go, not proved from fmt's source: count such statements apart). THE CARD IS WHAT COUNTS. Prove the row's statement (the work); the ties are given (YtofidkkihkgagaaDoorTie.lean); close each card by the builder's one call (the guide's Derived/Test/ToyasCard.lean, 'card_holds'). Laid BY PROGRAM, IN A SANDBOX (cutbox-door.mjs). By AI agents, Wed Nov 11 2026. No macro, syntax, notation, axiom, sorry.
-/
import Derived.Test.YtofidkkihkgagaaDoorRows
import GoSem.ClaimSeven
namespace Go.Proofs.YtofidkkihkgagaaDoor
namespace Rows

/-- THE TIED CARD OF 'laws.FnUCS2'. -/
def fnUCS2Card : Claim7 := { stood := { row := fnUCS2Row, standIns := [], harness := (true, "04531488025bb6afe417dc2d655b792373f21f5076604d72768b584cd70fabcd"), looks := false }, kinds := [], alts := [], laidByText := true, laidKinds := [.sentinel], laidTests := true, laidLooks := .later }
def FnUCS2CardSaid : Prop := Claim7.holds Tryd.pinned (.plain (OpenSpec.ofChange fnUCS2Spec)) fnUCS2Card

/-- THE TIED CARD OF 'laws.FnKernHead'. -/
def fnKernHeadCard : Claim7 := { stood := { row := fnKernHeadRow, standIns := [], harness := (true, "04531488025bb6afe417dc2d655b792373f21f5076604d72768b584cd70fabcd"), looks := false }, kinds := [], alts := [], laidByText := true, laidKinds := [.sentinel, .sentinel], laidTests := true, laidLooks := .later }
def FnKernHeadCardSaid : Prop := Claim7.holds Tryd.pinned (.plain (OpenSpec.ofChange fnKernHeadSpec)) fnKernHeadCard

/-- THE TIED CARD OF 'laws.FnLoca'. -/
def fnLocaCard : Claim7 := { stood := { row := fnLocaRow, standIns := [], harness := (true, "04531488025bb6afe417dc2d655b792373f21f5076604d72768b584cd70fabcd"), looks := false }, kinds := [], alts := [], laidByText := true, laidKinds := [.sentinel, .sentinel], laidTests := true, laidLooks := .later }
def FnLocaCardSaid : Prop := Claim7.holds Tryd.pinned (.plain (OpenSpec.ofChange fnLocaSpec)) fnLocaCard

/-- THE TIED CARD OF 'laws.FnCffIndex'. -/
def fnCffIndexCard : Claim7 := { stood := { row := fnCffIndexRow, standIns := [], harness := (true, "04531488025bb6afe417dc2d655b792373f21f5076604d72768b584cd70fabcd"), looks := false }, kinds := [], alts := [], laidByText := true, laidKinds := [.sentinel, .sentinel], laidTests := true, laidLooks := .later }
def FnCffIndexCardSaid : Prop := Claim7.holds Tryd.pinned (.plain (OpenSpec.ofChange fnCffIndexSpec)) fnCffIndexCard

/-- THE SECOND FORM's CARD OF 'laws.FnUCS2'. -/
def fnUCS2UptoCard : Claim7 := { stood := { row := fnUCS2UptoRow, standIns := [], harness := (true, "04531488025bb6afe417dc2d655b792373f21f5076604d72768b584cd70fabcd"), looks := false }, kinds := [], alts := [], laidByText := true, laidKinds := [.sentinel], laidTests := true, laidLooks := .later }
def FnUCS2UptoCardSaid : Prop := Claim7.holds Tryd.pinned (.plain (OpenSpec.upto fnUCS2Spec)) fnUCS2UptoCard

/-- THE SECOND FORM's CARD OF 'laws.FnKernHead'. -/
def fnKernHeadUptoCard : Claim7 := { stood := { row := fnKernHeadUptoRow, standIns := [], harness := (true, "04531488025bb6afe417dc2d655b792373f21f5076604d72768b584cd70fabcd"), looks := false }, kinds := [], alts := [], laidByText := true, laidKinds := [.sentinel, .sentinel], laidTests := true, laidLooks := .later }
def FnKernHeadUptoCardSaid : Prop := Claim7.holds Tryd.pinned (.plain (OpenSpec.upto fnKernHeadSpec)) fnKernHeadUptoCard

/-- THE SECOND FORM's CARD OF 'laws.FnLoca'. -/
def fnLocaUptoCard : Claim7 := { stood := { row := fnLocaUptoRow, standIns := [], harness := (true, "04531488025bb6afe417dc2d655b792373f21f5076604d72768b584cd70fabcd"), looks := false }, kinds := [], alts := [], laidByText := true, laidKinds := [.sentinel, .sentinel], laidTests := true, laidLooks := .later }
def FnLocaUptoCardSaid : Prop := Claim7.holds Tryd.pinned (.plain (OpenSpec.upto fnLocaSpec)) fnLocaUptoCard

/-- THE SECOND FORM's CARD OF 'laws.FnCffIndex'. -/
def fnCffIndexUptoCard : Claim7 := { stood := { row := fnCffIndexUptoRow, standIns := [], harness := (true, "04531488025bb6afe417dc2d655b792373f21f5076604d72768b584cd70fabcd"), looks := false }, kinds := [], alts := [], laidByText := true, laidKinds := [.sentinel, .sentinel], laidTests := true, laidLooks := .later }
def FnCffIndexUptoCardSaid : Prop := Claim7.holds Tryd.pinned (.plain (OpenSpec.upto fnCffIndexSpec)) fnCffIndexUptoCard
end Rows
end Go.Proofs.YtofidkkihkgagaaDoor
