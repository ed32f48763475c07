/-
  No cell of these rows narrows 'for every input' (looked for: loops, veiled, ifaces, maps, wideKeys, modest, calm, conditions, laid).
  DERIVED. THE GIVEN ROWS OF THIS SEAT. 5 by the template 'for every input the law returns true; each argument reads behind the call as it read before'; 0 by the template 'total and deterministic' (their statements: YbulkboaaTotals.lean).
  GIVEN WITH THE SEED: the statements are not yours to turn. If you find one false, say at which input.
  Laid BY PROGRAM, IN A SANDBOX (cutbox-rows.mjs): the forced cells as the released guide's own fill.sh prints them over the translation c74a1d89f58a42ff… (all of the seat's roots in one cut). By AI agents, Wed Nov 11 2026. No macro, syntax, notation, axiom, sorry.
-/
import Derived.Test.YbulkboaaChecked
import GoSem.Claim
import GoSem.ClaimJoined
import GoSem.ClaimMapViews
import Derived.JoinedTies
import Derived.KernelRfl
namespace Go.Proofs.Ybulkboaa
/- THE CELL 'sum', in the pinned program and in every row, IS THE sha256 OF THE DUMP (.gsa) THAT YbulkboaaProg.lean LOADS. Nothing in Lean hashes anything: it is a label: what it is worth is what the hold of that sum in a sandbox is worth. -/
noncomputable def Yba.pinned : Pinned := { name := "ybulkboaa", sum := "c74a1d89f58a42ff956c1b56232b641e674459dbcdddd472ea5f641b161d9586", checked := Yba.checked }
namespace Rows
def none {H : Type} : Left H := { results := [], args := [] }

/-- 'serialis.LawS3237AModel': WHATEVER THE INPUT: true; the input reads as it did. -/
def lawS3237AModelSpec : ChangeSpec := { name := "lawS3237AModel", fn := fun _ => fun
  | [d] => { results := [.lit (.bool true)], args := [d] }
  | _ => none }
def lawS3237AModelRow : OpenClaim := { program := "ybulkboaa", sum := "c74a1d89f58a42ff956c1b56232b641e674459dbcdddd472ea5f641b161d9586", func := "example.com/serialis/serialis.LawS3237AModel", spec := "lawS3237AModel", apart := false }
def LawS3237AModelSaid : Prop := lawS3237AModelRow.holds Yba.pinned (OpenSpec.ofChange lawS3237AModelSpec)

/-- ITS FALSE NEIGHBOUR: 'it returns false'. Refute it at one input. -/
def lawS3237AModelWrong : ChangeSpec := { name := "lawS3237AModel", fn := fun _ => fun
  | [d] => { results := [.lit (.bool false)], args := [d] }
  | _ => none }
def LawS3237AModelWrongFalsely : Prop := lawS3237AModelRow.holds Yba.pinned (OpenSpec.ofChange lawS3237AModelWrong)

/-- 'serialis.LawS3237AIdem': WHATEVER THE INPUT: true; the input reads as it did. -/
def lawS3237AIdemSpec : ChangeSpec := { name := "lawS3237AIdem", fn := fun _ => fun
  | [d1, d2, d3] => { results := [.lit (.bool true)], args := [d1, d2, d3] }
  | _ => none }
def lawS3237AIdemRow : OpenClaim := { program := "ybulkboaa", sum := "c74a1d89f58a42ff956c1b56232b641e674459dbcdddd472ea5f641b161d9586", func := "example.com/serialis/serialis.LawS3237AIdem", spec := "lawS3237AIdem", apart := false }
def LawS3237AIdemSaid : Prop := lawS3237AIdemRow.holds Yba.pinned (OpenSpec.ofChange lawS3237AIdemSpec)

/-- ITS FALSE NEIGHBOUR: 'it returns false'. Refute it at one input. -/
def lawS3237AIdemWrong : ChangeSpec := { name := "lawS3237AIdem", fn := fun _ => fun
  | [d1, d2, d3] => { results := [.lit (.bool false)], args := [d1, d2, d3] }
  | _ => none }
def LawS3237AIdemWrongFalsely : Prop := lawS3237AIdemRow.holds Yba.pinned (OpenSpec.ofChange lawS3237AIdemWrong)

/-- 'serialis.LawS3237BRead': WHATEVER THE INPUT: true; the input reads as it did. -/
def lawS3237BReadSpec : ChangeSpec := { name := "lawS3237BRead", fn := fun _ => fun
  | [d1, d2, d3, d4, d5, d6, d7, d8, d9, d10] => { results := [.lit (.bool true)], args := [d1, d2, d3, d4, d5, d6, d7, d8, d9, d10] }
  | _ => none }
def lawS3237BReadRow : OpenClaim := { program := "ybulkboaa", sum := "c74a1d89f58a42ff956c1b56232b641e674459dbcdddd472ea5f641b161d9586", func := "example.com/serialis/serialis.LawS3237BRead", spec := "lawS3237BRead", inPlace := ["(*internal/sync.Mutex).Lock", "internal/race.Disable", "sync/atomic.CompareAndSwapInt32", "internal/race.Enable", "internal/race.Acquire", "(*internal/sync.Mutex).lockSlow", "internal/sync.runtime_canSpin", "internal/sync.runtime_doSpin", "internal/sync.throw", "internal/sync.runtime_nanotime", "internal/sync.runtime_SemacquireMutex", "sync/atomic.AddInt32", "(*internal/sync.Mutex).Unlock", "internal/race.ReleaseMerge", "(*internal/sync.Mutex).unlockSlow", "internal/sync.fatal", "internal/sync.runtime_Semrelease"], apart := false }
def LawS3237BReadSaid : Prop := lawS3237BReadRow.holds Yba.pinned (OpenSpec.ofChange lawS3237BReadSpec)

/-- ITS FALSE NEIGHBOUR: 'it returns false'. Refute it at one input. -/
def lawS3237BReadWrong : ChangeSpec := { name := "lawS3237BRead", fn := fun _ => fun
  | [d1, d2, d3, d4, d5, d6, d7, d8, d9, d10] => { results := [.lit (.bool false)], args := [d1, d2, d3, d4, d5, d6, d7, d8, d9, d10] }
  | _ => none }
def LawS3237BReadWrongFalsely : Prop := lawS3237BReadRow.holds Yba.pinned (OpenSpec.ofChange lawS3237BReadWrong)

/-- 'serialis.LawS3237CReadBy': WHATEVER THE INPUT: true; the input reads as it did. -/
def lawS3237CReadBySpec : ChangeSpec := { name := "lawS3237CReadBy", fn := fun _ => fun
  | [d] => { results := [.lit (.bool true)], args := [d] }
  | _ => none }
def lawS3237CReadByRow : OpenClaim := { program := "ybulkboaa", sum := "c74a1d89f58a42ff956c1b56232b641e674459dbcdddd472ea5f641b161d9586", func := "example.com/serialis/serialis.LawS3237CReadBy", spec := "lawS3237CReadBy", apart := false }
def LawS3237CReadBySaid : Prop := lawS3237CReadByRow.holds Yba.pinned (OpenSpec.ofChange lawS3237CReadBySpec)

/-- ITS FALSE NEIGHBOUR: 'it returns false'. Refute it at one input. -/
def lawS3237CReadByWrong : ChangeSpec := { name := "lawS3237CReadBy", fn := fun _ => fun
  | [d] => { results := [.lit (.bool false)], args := [d] }
  | _ => none }
def LawS3237CReadByWrongFalsely : Prop := lawS3237CReadByRow.holds Yba.pinned (OpenSpec.ofChange lawS3237CReadByWrong)

/-- 'serialis.LawS3237CMirror': WHATEVER THE INPUT: true; the input reads as it did. -/
def lawS3237CMirrorSpec : ChangeSpec := { name := "lawS3237CMirror", fn := fun _ => fun
  | [d] => { results := [.lit (.bool true)], args := [d] }
  | _ => none }
def lawS3237CMirrorRow : OpenClaim := { program := "ybulkboaa", sum := "c74a1d89f58a42ff956c1b56232b641e674459dbcdddd472ea5f641b161d9586", func := "example.com/serialis/serialis.LawS3237CMirror", spec := "lawS3237CMirror", apart := false }
def LawS3237CMirrorSaid : Prop := lawS3237CMirrorRow.holds Yba.pinned (OpenSpec.ofChange lawS3237CMirrorSpec)

/-- ITS FALSE NEIGHBOUR: 'it returns false'. Refute it at one input. -/
def lawS3237CMirrorWrong : ChangeSpec := { name := "lawS3237CMirror", fn := fun _ => fun
  | [d] => { results := [.lit (.bool false)], args := [d] }
  | _ => none }
def LawS3237CMirrorWrongFalsely : Prop := lawS3237CMirrorRow.holds Yba.pinned (OpenSpec.ofChange lawS3237CMirrorWrong)

end Rows
end Go.Proofs.Ybulkboaa
