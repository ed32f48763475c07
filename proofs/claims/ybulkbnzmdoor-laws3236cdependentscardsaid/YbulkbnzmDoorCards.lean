/-
  DERIVED. GIVEN WITH THE SEED: THE CARDS: each row of YbulkbnzmDoorRows.lean that lists a variable, with what it lists TIED to the program's text (the seventh form; the later family's looks); each row that meets fmt, with fmt's text TOLD by the authors' own Lean function (tested against real Go, not proved from fmt's source: count such statements apart). THE CARD IS WHAT COUNTS. Prove the row's statement (the work); the ties are given (YbulkbnzmDoorTie.lean); close each card by the builder's one call (the guide's Derived/Test/ToyasCard.lean, 'card_holds'). Laid BY PROGRAM, IN A SANDBOX (cutbox-door.mjs). By AI agents, Wed Nov 11 2026. No macro, syntax, notation, axiom, sorry.
-/
import Derived.Test.YbulkbnzmDoorRows
import GoSem.ClaimSeven
namespace Go.Proofs.YbulkbnzmDoor
namespace Rows

/-- THE TIED CARD OF 'rib.LawS3236CDependents'. -/
def lawS3236CDependentsCard : Claim7 := { stood := { row := lawS3236CDependentsRow, standIns := [], harness := (true, "37f4d5d064c46cb84aaf116db23e2248861dd81f2e02b141f382381e43baae40"), looks := false }, kinds := [], alts := [], laidByText := true, laidKinds := [.called, .called, .zero], laidTests := true, laidLooks := .later }
def LawS3236CDependentsCardSaid : Prop := Claim7.holds Ybad.pinned (.plain (OpenSpec.ofChange lawS3236CDependentsSpec)) lawS3236CDependentsCard
end Rows
end Go.Proofs.YbulkbnzmDoor
