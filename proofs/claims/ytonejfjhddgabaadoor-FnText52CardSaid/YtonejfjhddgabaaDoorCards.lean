/-
  DERIVED. GIVEN WITH THE SEED: THE CARDS: each row of YtonejfjhddgabaaDoorRows.lean that lists a variable, with what it lists TIED to the program's text (the seventh form; the later family's looks); each row that meets fmt, with fmt's text TOLD by the authors' own Lean function (tested against real Go, not proved from fmt's source: count such statements apart). THE CARD IS WHAT COUNTS. Prove the row's statement (the work); the ties are given (YtonejfjhddgabaaDoorTie.lean); close each card by the builder's one call (the guide's Derived/Test/ToyasCard.lean, 'card_holds'). Laid BY PROGRAM, IN A SANDBOX (cutbox-door.mjs). By AI agents, Wed Nov 11 2026. No macro, syntax, notation, axiom, sorry.
-/
import Derived.Test.YtonejfjhddgabaaDoorRows
import GoSem.ClaimSeven
namespace Go.Proofs.YtonejfjhddgabaaDoor
namespace Rows

/-- THE TIED CARD OF 'laws.FnText26'. -/
def fnText26Card : Claim7 := { stood := { row := fnText26Row, standIns := [], harness := (true, "da2b02865c660c7f02caf2c75356bb360663308a89f30d3efdf86ca38169ef18"), looks := false }, kinds := [], alts := [], laidByText := true, laidKinds := [.data, .data, .data], laidTests := true, laidLooks := .later }
def FnText26CardSaid : Prop := Claim7.holds Tryd.pinned (.plain (OpenSpec.ofChange fnText26Spec)) fnText26Card

/-- THE TIED CARD OF 'laws.FnText52'. -/
def fnText52Card : Claim7 := { stood := { row := fnText52Row, standIns := [], harness := (true, "da2b02865c660c7f02caf2c75356bb360663308a89f30d3efdf86ca38169ef18"), looks := false }, kinds := [], alts := [], laidByText := true, laidKinds := [.data, .data, .data], laidTests := true, laidLooks := .later }
def FnText52CardSaid : Prop := Claim7.holds Tryd.pinned (.plain (OpenSpec.ofChange fnText52Spec)) fnText52Card

/-- THE SECOND FORM's CARD OF 'laws.FnText26'. -/
def fnText26UptoCard : Claim7 := { stood := { row := fnText26UptoRow, standIns := [], harness := (true, "da2b02865c660c7f02caf2c75356bb360663308a89f30d3efdf86ca38169ef18"), looks := false }, kinds := [], alts := [], laidByText := true, laidKinds := [.data, .data, .data], laidTests := true, laidLooks := .later }
def FnText26UptoCardSaid : Prop := Claim7.holds Tryd.pinned (.plain (OpenSpec.upto fnText26Spec)) fnText26UptoCard

/-- THE SECOND FORM's CARD OF 'laws.FnText52'. -/
def fnText52UptoCard : Claim7 := { stood := { row := fnText52UptoRow, standIns := [], harness := (true, "da2b02865c660c7f02caf2c75356bb360663308a89f30d3efdf86ca38169ef18"), looks := false }, kinds := [], alts := [], laidByText := true, laidKinds := [.data, .data, .data], laidTests := true, laidLooks := .later }
def FnText52UptoCardSaid : Prop := Claim7.holds Tryd.pinned (.plain (OpenSpec.upto fnText52Spec)) fnText52UptoCard
end Rows
end Go.Proofs.YtonejfjhddgabaaDoor
