/-
  DERIVED. GIVEN WITH THE SEED: THE CARDS: each row of YbulkanlsDoorRows.lean that lists a variable, with what it lists TIED to the program's text (the seventh form; the later family's looks); each row that meets fmt, with fmt's text TOLD by the authors' own Lean function (tested against real Go, not proved from fmt's source: count such statements apart). THE CARD IS WHAT COUNTS. Prove the row's statement (the work); the ties are given (YbulkanlsDoorTie.lean); close each card by the builder's one call (the guide's Derived/Test/ToyasCard.lean, 'card_holds'). Laid BY PROGRAM, IN A SANDBOX (cutbox-door.mjs). By AI agents, Wed Nov 11 2026. No macro, syntax, notation, axiom, sorry.
-/
import Derived.Test.YbulkanlsDoorRows
import GoSem.ClaimSeven
namespace Go.Proofs.YbulkanlsDoor
namespace Rows

/-- THE TIED CARD OF 'config.LawS1955BTable'. -/
def lawS1955BTableCard : Claim7 := { stood := { row := lawS1955BTableRow, standIns := [], harness := (true, "c439af7b0e62d98eab7f925f88f50a926b8dc6437bf0d1ade106cde3df226a2c"), looks := false }, kinds := [], alts := [], laidByText := true, laidKinds := [.data], laidTests := true, laidLooks := .later }
def LawS1955BTableCardSaid : Prop := Claim7.holds Ybad.pinned (.plain (OpenSpec.ofChange lawS1955BTableSpec)) lawS1955BTableCard

/-- THE TIED CARD OF 'config.LawS1955BBuilt'. -/
def lawS1955BBuiltCard : Claim7 := { stood := { row := lawS1955BBuiltRow, standIns := [], harness := (true, "c439af7b0e62d98eab7f925f88f50a926b8dc6437bf0d1ade106cde3df226a2c"), looks := false }, kinds := [], alts := [], laidByText := true, laidKinds := [.data], laidTests := true, laidLooks := .later }
def LawS1955BBuiltCardSaid : Prop := Claim7.holds Ybad.pinned (.plain (OpenSpec.ofChange lawS1955BBuiltSpec)) lawS1955BBuiltCard
end Rows
end Go.Proofs.YbulkanlsDoor
