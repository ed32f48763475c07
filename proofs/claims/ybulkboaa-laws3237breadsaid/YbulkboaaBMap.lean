import Derived.Test.YbulkboaaBLink
import Derived.MapKept
import Derived.ChangeMaps4
namespace Go.Proofs.Ybulkboaa.BMap
open Go.RowKit MapLaw CBase BPlain BBreach BMem BLink
set_option linter.unusedVariables false

/-- the entries of a map that holds the one name s, or nothing -/
def me (s : ByteArray) : Option Value → Array MapEntry
  | none => #[]
  | some v => #[⟨.string s, v, 0⟩]

theorem same_bytes (s : ByteArray) : (s == s) = true := by cases s with | mk d => show (d == d) = true; exact beq_self_eq_true d
theorem under9 : Yba.prog.underlying 9 = some .string := Yba.underlying9
theorem findS (W : World) (s : ByteArray) (o : Option Value) : (Instr.findKey 9 (.string s) (me s o).toList).run Yba.prog W = .ok (o.map fun v => (0, v)) W := by
  unfold Instr.findKey
  simp only [Sem.run_bind, run_underlying under9, Result.andThen_ok]
  cases o with
  | none => rfl
  | some v =>
    have e : Instr.findNow .string (.string s) (me s (some v)).toList 0 = some (some (0, v)) := by
      simp [me, Instr.findNow, Instr.sameNow, same_bytes]
    rw [e]
    rfl
theorem checkS (W : World) (s : ByteArray) (b : Bool) : (Instr.checkKey b 10000 9 (.string s)).run Yba.prog W = .ok () W :=
  MapKept.run_checkKey under9 (d := .string) (k := .string s) trivial b 9999

section
variable {W : World} {mt et : TypeId} {r c : Nat} {s : ByteArray} {o : Option Value}
theorem lookS (hmt : Yba.prog.underlying mt = some (.map 9 et)) (hz : ∀ w, (zeroValue et).run Yba.prog w = .ok (.pointer none) w) (hb : W.heap[r]? = some (.map (me s o) c)) : (Instr.lookup mt (.map (some r)) (.string s) false).run Yba.prog W = .ok (o.getD (.pointer none)) W := by
  unfold Instr.lookup
  simp only [Sem.run_bind, run_underlying hmt, Result.andThen_ok, MapKept.run_getObj_map hb, Sem.run_pure, checkS, findS]
  cases o with
  | none => simp [hz]
  | some v => simp
theorem lenS (hmt : Yba.prog.underlying mt = some (.map 9 et)) (hb : W.heap[r]? = some (.map (me s o) c)) (ty : TypeId) : (Builtin.len_ #[mt] ty #[.map (some r)]).run Yba.prog W = .ok (.int .i64 (if o.isSome then 1 else 0)) W := by
  unfold Builtin.len_
  cases o <;> simp [Sem.run_bind, run_underlying hmt, MapKept.run_getObj_map hb, me, goInt]
theorem updS (hmt : Yba.prog.underlying mt = some (.map 9 et)) (hb : W.heap[r]? = some (.map (me s none) 0)) (v : Value) : (Instr.mapUpdate mt (.map (some r)) (.string s) v).run Yba.prog W = .ok () (ChangeMaps.setBlock W r (.map (me s (some v)) 1)) := by
  have hf := findS W s none
  unfold Instr.mapUpdate
  simp only [Sem.run_bind, run_underlying hmt, Result.andThen_ok, MapKept.run_getObj_map hb, checkS, hf, Option.map_none, MapKept.run_setObj_map _ hb]
  simp [me, ChangeMaps.setBlock]
theorem delS (hmt : Yba.prog.underlying mt = some (.map 9 et)) {v : Value} (hb : W.heap[r]? = some (.map (me s (some v)) c)) (ty : TypeId) : (Builtin.delete_ #[mt, 9] ty #[.map (some r), .string s]).run Yba.prog W = .ok (.tuple #[]) (ChangeMaps.setBlock W r (.map (me s none) c)) := by
  have hf : (Instr.findKey 9 (.string s) [⟨.string s, v, 0⟩]).run Yba.prog W = .ok (some (0, v)) W := findS W s (some v)
  unfold Builtin.delete_
  simp [Sem.run_bind, run_underlying hmt, MapKept.run_getObj_map hb, checkS, hf, MapKept.run_setObj_map _ hb, ChangeMaps.setBlock, me]
end
theorem zero40 (w : World) : (zeroValue 40).run Yba.prog w = .ok (.pointer none) w := Yba.zeroValue40 w
theorem zero62 (w : World) : (zeroValue 62).run Yba.prog w = .ok (.pointer none) w := Yba.zeroValue62 w

/-- forgetIfEmpty: the writer is nil -/
theorem forget_any (W : World) (p mi eb : Nat) (s : ByteArray) (rd : Bool) (ro_ : Option Addr) (rc : Nat) (ev : Value) (ci : Nat)
    (c2 : W.cell? ⟨p, 2, none⟩ = some (.map (some mi))) (e0 : W.cell? ⟨eb, 0, none⟩ = some (.pointer none)) (e1 : W.cell? ⟨eb, 1, none⟩ = some (.slice ro_ (if rd then 1 else 0) rc))
    (hm : W.heap[mi]? = some (.map (me s (some ev)) ci)) :
    Calls Yba.prog 24 #[.pointer (some ⟨p, 0, none⟩), .string s, .pointer (some ⟨eb, 0, none⟩)] W fun e w' => e = .returned (.tuple #[]) ∧ w' = if rd then W else ChangeMaps.setBlock W mi (.map (me s none) ci) := by
  have hd := delS Yba.underlying48 hm
  cases rd with
  | true =>
    simp only [if_true] at e1 ⊢
    go_enter Yba.func24, Yba.ntmps24
    go_wp2
    refine bodyPost_end (v := .tuple #[]) (by simp [results, Yba.results24]) rfl ⟨rfl, rfl⟩
  | false =>
    simp only [Bool.false_eq_true, if_false] at e1 ⊢
    go_enter Yba.func24, Yba.ntmps24
    go_wp2
    refine bodyPost_end (v := .tuple #[]) (by simp [results, Yba.results24]) rfl ⟨rfl, rfl⟩
end Go.Proofs.Ybulkboaa.BMap
