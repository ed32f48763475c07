/-
  No cell of these rows narrows 'for every input' (looked for: loops, veiled, ifaces, maps, wideKeys, modest, calm, conditions, laid).
  DERIVED. THE GIVEN ROWS OF THIS SEAT. 1 by the template 'for every input the law returns true; each argument reads behind the call as it read before'; 0 by the template 'total and deterministic' (their statements: YbulkbnzmFmtTotals.lean).
  GIVEN WITH THE SEED: the statements are not yours to turn. If you find one false, say at which input.
  Laid BY PROGRAM, IN A SANDBOX (cutbox-rows.mjs): the forced cells as the released guide's own fill.sh prints them over the translation 8e8940fb7161272d… (all of the seat's roots in one cut). By AI agents, Wed Nov 11 2026. No macro, syntax, notation, axiom, sorry.
-/
import Derived.Test.YbulkbnzmFmtChecked
import GoSem.Claim
import GoSem.ClaimJoined
import GoSem.ClaimMapViews
import Derived.JoinedTies
import Derived.KernelRfl
namespace Go.Proofs.YbulkbnzmFmt
/- THE CELL 'sum', in the pinned program and in every row, IS THE sha256 OF THE DUMP (.gsa) THAT YbulkbnzmFmtProg.lean LOADS. Nothing in Lean hashes anything: it is a label: what it is worth is what the hold of that sum in a sandbox is worth. -/
noncomputable def Ybaf.pinned : Pinned := { name := "ybulkbnzmfmt", sum := "8e8940fb7161272dfb1e07bd66abc2fbcd8b956ce9e3a7c05ae8dc1fb2b30fbc", checked := Ybaf.checked }
namespace Rows
def none {H : Type} : Left H := { results := [], args := [] }

/-- 'yangjson.LawS3236BPick': WHATEVER THE INPUT: true; the input reads as it did. -/
def lawS3236BPickSpec : ChangeSpec := { name := "lawS3236BPick", fn := fun _ => fun
  | [d1, d2, d3, d4] => { results := [.lit (.bool true)], args := [d1, d2, d3, d4] }
  | _ => none }
def lawS3236BPickRow : OpenClaim := { program := "ybulkbnzmfmt", sum := "8e8940fb7161272dfb1e07bd66abc2fbcd8b956ce9e3a7c05ae8dc1fb2b30fbc", func := "example.com/prefixforge/prefixforge/yangjson.LawS3236BPick", spec := "lawS3236BPick", stops := ["fmt.errorf"], inPlace := ["fmt.errorf"], apart := false }
/-- NO THEOREM (fmt's text is open here; it may be false): for the released tool's asking of the row's closed facts alone. THE STATEMENT IS 'LawS3236BPickToldSaid' (YbulkbnzmFmtCards.lean). -/
def LawS3236BPickFormAsk : Prop := lawS3236BPickRow.holds Ybaf.pinned (OpenSpec.ofChange lawS3236BPickSpec)

/-- ITS FALSE NEIGHBOUR: 'it returns false'. Refute it at one input. -/
def lawS3236BPickWrong : ChangeSpec := { name := "lawS3236BPick", fn := fun _ => fun
  | [d1, d2, d3, d4] => { results := [.lit (.bool false)], args := [d1, d2, d3, d4] }
  | _ => none }
def LawS3236BPickWrongFormAsk : Prop := lawS3236BPickRow.holds Ybaf.pinned (OpenSpec.ofChange lawS3236BPickWrong)

end Rows
end Go.Proofs.YbulkbnzmFmt
