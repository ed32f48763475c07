/-
  DERIVED. GIVEN WITH THE SEED: THE CARDS: each row of YbulkbnzmFmtRows.lean that lists a variable, with what it lists TIED to the program's text (the seventh form; the later family's looks); each row that meets fmt, with fmt's text TOLD by the authors' own Lean function (tested against real Go, not proved from fmt's source: count such statements apart). THE CARD IS WHAT COUNTS. Prove the row's statement (the work); the ties are given (YbulkbnzmFmtTie.lean); close each card by the builder's one call (the guide's Derived/Test/ToyasCard.lean, 'card_holds'). Laid BY PROGRAM, IN A SANDBOX (cutbox-door.mjs). By AI agents, Wed Nov 11 2026. No macro, syntax, notation, axiom, sorry.
-/
import Derived.Test.YbulkbnzmFmtRows
import GoSem.ClaimSeven
namespace Go.Proofs.YbulkbnzmFmt
namespace Rows

/-- THE TOLD CARD OF 'yangjson.LawS3236BPick'. -/
def lawS3236BPickCard : Claim7 := { stood := { row := lawS3236BPickRow, standIns := [], harness := (true, "390aeaf98396ace410ea5a768e4d37e9c09446f64ea6fe365e718b7cfc40e321"), looks := true }, told := true, goes := false }
def LawS3236BPickToldSaid : Prop := Claim7.holds Ybaf.pinned (.plain (OpenSpec.ofChange lawS3236BPickSpec)) lawS3236BPickCard
/-- ITS FALSE NEIGHBOUR. Refute it at one input. -/
def LawS3236BPickToldWrongFalsely : Prop := Claim7.holds Ybaf.pinned (.plain (OpenSpec.ofChange lawS3236BPickWrong)) lawS3236BPickCard
end Rows
end Go.Proofs.YbulkbnzmFmt
