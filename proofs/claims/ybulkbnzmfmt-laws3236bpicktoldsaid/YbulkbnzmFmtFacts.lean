import Derived.Test.YbulkbnzmFmtRows
import Derived.Stop.CallBack
import Derived.Stop.IfaceNil
import GoSem.ClaimData
import Derived.WalkKit
import Derived.WalkSpells
import Derived.WalkLawsBesides
import Derived.BigQuiet
namespace Go.Proofs.YbulkbnzmFmt.Facts
open Go.RowKit Go.Extern.Stop Go.Stop Go.Extern
set_option linter.unusedVariables false

theorem call7 (args : Array Value) (w : World) : (callFunc 7 args).run Ybaf.prog w = ((FmtStop.errorf #[9, 55] #[31] args).run Ybaf.prog w).andThen fun v w' => .ok (.value v) w' :=
  run_callFunc_extern Ybaf.func7 (by kernel_rfl) (by kernel_rfl) (by kernel_rfl) (by kernel_rfl) args w

theorem guard (name : String) (w : World) : (FmtStop.guard name).run Ybaf.prog w = .ok () w := by kernel_rfl

theorem fmt0 : FmtStop.printed? ⟨#[37, 115, 58, 32, 110, 111, 116, 32, 97, 32, 99, 111, 110, 116, 97, 105, 110, 101, 114]⟩ 1 = some [(0, 115, false)] := by kernel_rfl
theorem fmt0r (w : World) : (FmtDoors.printed ⟨#[37, 115, 58, 32, 110, 111, 116, 32, 97, 32, 99, 111, 110, 116, 97, 105, 110, 101, 114]⟩ 1).run Ybaf.prog w = .ok [(0, 115, false)] w := by kernel_rfl

theorem name9 : Ybaf.prog.typeName? 3 9 = some "string" := by kernel_rfl
def shape9 : List UInt8 := [12, 6, 0, 0, 0, 0, 0, 0, 0, 115, 116, 114, 105, 110, 103]
theorem op9_115 (name : String) (x : ByteArray) (w : World) : (FmtStop.operand name false 115 false (.iface 9 (.string x))).run Ybaf.prog w = .ok (shape9, FmtStop.pack x.data.toList) w := by kernel_rfl
theorem op9_115w (name : String) (x : ByteArray) (w : World) : (FmtStop.operand name true 115 false (.iface 9 (.string x))).run Ybaf.prog w = .ok (shape9, FmtStop.pack x.data.toList) w := by kernel_rfl
theorem strict9 (name : String) (x : ByteArray) (w : World) : (FmtStop.strict name (.iface 9 (.string x))).run Ybaf.prog w = .ok (shape9, FmtStop.pack x.data.toList) w := by kernel_rfl
theorem ptr58 (w : World) : (FmtStop.ptrTo "errors.errorString").run Ybaf.prog w = .ok 58 w := by kernel_rfl
theorem elem58 (w : World) : (elemOf 58).run Ybaf.prog w = .ok 60 w := by kernel_rfl
theorem isError58 (w : World) : (FmtDoors.textMethod 58 "Error").run Ybaf.prog w = .ok true w := by kernel_rfl

theorem as25 (x : Value) (w : World) : (Instr.typeAssert (.iface 25 x) 24 25 true).run Ybaf.prog w = .ok (.tuple #[x, .bool true]) w := by kernel_rfl
theorem as38 (x : Value) (w : World) : (Instr.typeAssert (.iface 38 x) 24 25 true).run Ybaf.prog w = .ok (.tuple #[.pointer none, .bool false]) w := by kernel_rfl
theorem as44 (x : Value) (w : World) : (Instr.typeAssert (.iface 44 x) 24 25 true).run Ybaf.prog w = .ok (.tuple #[.pointer none, .bool false]) w := by kernel_rfl
theorem as46 (x : Value) (w : World) : (Instr.typeAssert (.iface 46 x) 24 25 true).run Ybaf.prog w = .ok (.tuple #[.pointer none, .bool false]) w := by kernel_rfl
theorem as47 (x : Value) (w : World) : (Instr.typeAssert (.iface 47 x) 24 25 true).run Ybaf.prog w = .ok (.tuple #[.pointer none, .bool false]) w := by kernel_rfl
theorem asNil (w : World) : (Instr.typeAssert .nilIface 24 25 true).run Ybaf.prog w = .ok (.tuple #[.pointer none, .bool false]) w := by kernel_rfl

attribute [local go_sem] call7 guard fmt0 fmt0r op9_115 op9_115w strict9 ptr58 elem58 isError58 as25 as38 as44 as46 as47 asNil

/-- ContainerOf, the member holding a container (nil or not) -/
theorem of_yes (p : Option Addr) (md nm path : ByteArray) (st : Bool) (w : World) :
    Calls Ybaf.prog 5 #[.agg #[.string md, .string nm, .iface 25 (.pointer p), .bool st], .string path] w fun e w' => e = .returned (.tuple #[.pointer p, .nilIface]) ∧ Below w.heap.size w w' := by
  go_enter Ybaf.func5, Ybaf.ntmps5
  go_wp2
  go_ret2
  exact ⟨rfl, (Below.refl _ _).alloc (Nat.le_refl _) _⟩

theorem of_no (F : Interp) (T : TypeId) (x : Value) (md nm path : ByteArray) (st : Bool) (w : World) (hF : F.answers w.tape) (hT : T = 38 ∨ T = 46 ∨ T = 44 ∨ T = 47) :
    Calls Ybaf.prog 5 #[.agg #[.string md, .string nm, .iface T x, .bool st], .string path] w fun e w' => (∃ a, e = .returned (.tuple #[.pointer none, .iface 58 (.pointer (some a))])) ∧ Below w.heap.size w w' := by
  have hF' := answers_open hF
  rcases hT with rfl | rfl | rfl | rfl
  all_goals
    go_enter Ybaf.func5, Ybaf.ntmps5
    go_wp2
    go_ret2
    exact ⟨⟨_, rfl⟩, ((((Below.refl _ _).alloc (Nat.le_refl _) _).alloc (by simp) _).alloc (by simp; omega) _).drew⟩

theorem of_nil (F : Interp) (md nm path : ByteArray) (st : Bool) (w : World) (hF : F.answers w.tape) :
    Calls Ybaf.prog 5 #[.agg #[.string md, .string nm, .nilIface, .bool st], .string path] w fun e w' => (∃ a, e = .returned (.tuple #[.pointer none, .iface 58 (.pointer (some a))])) ∧ Below w.heap.size w w' := by
  have hF' := answers_open hF
  go_enter Ybaf.func5, Ybaf.ntmps5
  go_wp2
  go_ret2
  exact ⟨⟨_, rfl⟩, ((((Below.refl _ _).alloc (Nat.le_refl _) _).alloc (by simp) _).alloc (by simp; omega) _).drew⟩
end Go.Proofs.YbulkbnzmFmt.Facts
