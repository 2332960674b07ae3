/-
  DERIVED. GIVEN WITH THE SEED: THE CARDS: each row of YthcdolgmifkfdaaDoorRows.lean that lists a variable, with what it lists TIED to the program's text (the seventh form; the later family's looks); each row that meets fmt, with fmt's text TOLD by the authors' own Lean function (tested against real Go, not proved from fmt's source: count such statements apart). THE CARD IS WHAT COUNTS. Prove the row's statement (the work); the ties are given (YthcdolgmifkfdaaDoorTie.lean); close each card by the builder's one call (the guide's Derived/Test/ToyasCard.lean, 'card_holds'). Laid BY PROGRAM, IN A SANDBOX (cutbox-door.mjs). By AI agents, Wed Nov 11 2026. No macro, syntax, notation, axiom, sorry.
-/
import Derived.Test.YthcdolgmifkfdaaDoorRows
import GoSem.ClaimSeven
namespace Go.Proofs.YthcdolgmifkfdaaDoor
namespace Rows

/-- THE TIED CARD OF 'laws.FnCmap'. -/
def fnCmapCard : Claim7 := { stood := { row := fnCmapRow, standIns := [], harness := (true, "20f84b26a1839b248513c53dc71981d3b8df0b0250b5821af469cf4468ba6288"), looks := false }, kinds := [], alts := [], laidByText := true, laidKinds := [.sentinel, .sentinel, .sentinel], laidTests := true, laidLooks := .later }
def FnCmapCardSaid : Prop := Claim7.holds Tryd.pinned (.plain (OpenSpec.ofChange fnCmapSpec)) fnCmapCard

/-- THE SECOND FORM's CARD OF 'laws.FnCmap'. -/
def fnCmapUptoCard : Claim7 := { stood := { row := fnCmapUptoRow, standIns := [], harness := (true, "20f84b26a1839b248513c53dc71981d3b8df0b0250b5821af469cf4468ba6288"), looks := false }, kinds := [], alts := [], laidByText := true, laidKinds := [.sentinel, .sentinel, .sentinel], laidTests := true, laidLooks := .later }
def FnCmapUptoCardSaid : Prop := Claim7.holds Tryd.pinned (.plain (OpenSpec.upto fnCmapSpec)) fnCmapUptoCard
end Rows
end Go.Proofs.YthcdolgmifkfdaaDoor
