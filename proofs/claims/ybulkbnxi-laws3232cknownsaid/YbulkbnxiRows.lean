/-
  No cell of these rows narrows 'for every input' (looked for: loops, veiled, ifaces, maps, wideKeys, modest, calm, conditions, laid).
  DERIVED. THE GIVEN ROWS OF THIS SEAT. 2 by the template 'for every input the law returns true; each argument reads behind the call as it read before'; 0 by the template 'total and deterministic' (their statements: YbulkbnxiTotals.lean).
  GIVEN WITH THE SEED: the statements are not yours to turn. If you find one false, say at which input.
  Laid BY PROGRAM, IN A SANDBOX (cutbox-rows.mjs): the forced cells as the released guide's own fill.sh prints them over the translation 52725ab6ed66abe2… (all of the seat's roots in one cut). By AI agents, Wed Nov 11 2026. No macro, syntax, notation, axiom, sorry.
-/
import Derived.Test.YbulkbnxiChecked
import GoSem.Claim
import GoSem.ClaimJoined
import GoSem.ClaimMapViews
import Derived.JoinedTies
import Derived.KernelRfl
namespace Go.Proofs.Ybulkbnxi
/- THE CELL 'sum', in the pinned program and in every row, IS THE sha256 OF THE DUMP (.gsa) THAT YbulkbnxiProg.lean LOADS. Nothing in Lean hashes anything: it is a label: what it is worth is what the hold of that sum in a sandbox is worth. -/
noncomputable def Yba.pinned : Pinned := { name := "ybulkbnxi", sum := "52725ab6ed66abe27d914ec41bb22ed031bb8732bee76f0d5c8b40f04d8b5df2", checked := Yba.checked }
namespace Rows
def none {H : Type} : Left H := { results := [], args := [] }

/-- 'snapshot.LawS3232CLast': WHATEVER THE INPUT: true; the input reads as it did. -/
def lawS3232CLastSpec : ChangeSpec := { name := "lawS3232CLast", fn := fun _ => fun
  | [d] => { results := [.lit (.bool true)], args := [d] }
  | _ => none }
def lawS3232CLastRow : OpenClaim := { program := "ybulkbnxi", sum := "52725ab6ed66abe27d914ec41bb22ed031bb8732bee76f0d5c8b40f04d8b5df2", func := "example.com/stillframe/stillframe/internal/snapshot.LawS3232CLast", spec := "lawS3232CLast", apart := false }
def LawS3232CLastSaid : Prop := lawS3232CLastRow.holds Yba.pinned (OpenSpec.ofChange lawS3232CLastSpec)

/-- ITS FALSE NEIGHBOUR: 'it returns false'. Refute it at one input. -/
def lawS3232CLastWrong : ChangeSpec := { name := "lawS3232CLast", fn := fun _ => fun
  | [d] => { results := [.lit (.bool false)], args := [d] }
  | _ => none }
def LawS3232CLastWrongFalsely : Prop := lawS3232CLastRow.holds Yba.pinned (OpenSpec.ofChange lawS3232CLastWrong)

/-- 'snapshot.LawS3232CKnown': WHATEVER THE INPUT: true; the input reads as it did. -/
def lawS3232CKnownSpec : ChangeSpec := { name := "lawS3232CKnown", fn := fun _ => fun
  | [d1, d2] => { results := [.lit (.bool true)], args := [d1, d2] }
  | _ => none }
def lawS3232CKnownRow : OpenClaim := { program := "ybulkbnxi", sum := "52725ab6ed66abe27d914ec41bb22ed031bb8732bee76f0d5c8b40f04d8b5df2", func := "example.com/stillframe/stillframe/internal/snapshot.LawS3232CKnown", spec := "lawS3232CKnown", inPlace := ["(*internal/sync.Mutex).Lock", "internal/race.Disable", "sync/atomic.CompareAndSwapInt32", "internal/race.Enable", "internal/race.Acquire", "(*internal/sync.Mutex).lockSlow", "internal/sync.runtime_canSpin", "internal/sync.runtime_doSpin", "internal/sync.throw", "internal/sync.runtime_nanotime", "internal/sync.runtime_SemacquireMutex", "sync/atomic.AddInt32", "(*internal/sync.Mutex).Unlock", "internal/race.ReleaseMerge", "(*internal/sync.Mutex).unlockSlow", "internal/sync.fatal", "internal/sync.runtime_Semrelease"], apart := false }
def LawS3232CKnownSaid : Prop := lawS3232CKnownRow.holds Yba.pinned (OpenSpec.ofChange lawS3232CKnownSpec)

/-- ITS FALSE NEIGHBOUR: 'it returns false'. Refute it at one input. -/
def lawS3232CKnownWrong : ChangeSpec := { name := "lawS3232CKnown", fn := fun _ => fun
  | [d1, d2] => { results := [.lit (.bool false)], args := [d1, d2] }
  | _ => none }
def LawS3232CKnownWrongFalsely : Prop := lawS3232CKnownRow.holds Yba.pinned (OpenSpec.ofChange lawS3232CKnownWrong)

end Rows
end Go.Proofs.Ybulkbnxi
