import Derived.Test.YbulkboaaCBase
namespace Go.Proofs.Ybulkboaa.CHas
open Go.RowKit MapLaw CBase
set_option linter.unusedVariables false

/-- what key q holds: false where there is no entry -/
def valB (q : Nat) (ps : List Ent) : Bool := match lookE q ps with | some (.bool b) => b | _ => false

/-- the map 'rest': nil, or the entries ps -/
def MapAt (w : World) (pb : Nat) (r : Option Nat) (ps : List Ent) : Prop :=
  (∀ p ∈ ps, p.1 < 4 ∧ ∃ b, p.2.1 = .bool b) ∧ ((r = none ∧ ps = []) ∨ ∃ mb c, r = some mb ∧ w.heap[mb]? = some (.map (ents (K pb) ps).toArray c))

theorem zero4 (w : World) : (zeroValue 4).run Yba.prog w = .ok (.bool false) w := by kernel_rfl

theorem look_bool (q : Nat) (ps : List Ent) (h : ∀ p ∈ ps, p.1 < 4 ∧ ∃ b, p.2.1 = .bool b) : (lookE q ps).getD (.bool false) = .bool (valB q ps) := by
  unfold valB
  induction ps with
  | nil => rfl
  | cons p ps ih =>
    unfold lookE
    split
    · obtain ⟨b, hb⟩ := (h p (by simp)).2
      simp [hb]
    · exact ih (fun x hx => h x (by simp [hx]))

theorem run_look {w : World} {pb mb : Nat} {ps : List Ent} {c : Nat} (hp : Pool w pb) (hps : ∀ p ∈ ps, p.1 < 4 ∧ ∃ b, p.2.1 = .bool b) (hb : w.heap[mb]? = some (.map (ents (K pb) ps).toArray c)) (q : Nat) (hq : q < 4) :
    (Instr.lookup 112 (.map (some mb)) (.pointer (some ⟨pb + q, 0, none⟩)) false).run Yba.prog w = .ok (.bool (valB q ps)) w := by
  rw [← look_bool q ps hps]
  exact run_lookup Yba.underlying112 zero4 (keys_pool hp) mb ps c hb q hq (fun p hp' => (hps p hp').1)

theorem has_first (sb so pb i0 q : Nat) (w : World) (hp : Pool w pb) (hq : q < 4) (c0 : w.cell? ⟨sb, so, none⟩ = some (.pointer (pp pb i0))) (h : i0 = q) :
    Calls Yba.prog 28 #[.pointer (some ⟨sb, so, none⟩), .pointer (some ⟨pb + q, 0, none⟩)] w fun e w' => e = .returned (.bool true) ∧ w' = w := by
  have e0 := eql_pool hp i0 q hq
  rw [show (i0 == q) = true by simpa using h] at e0
  clear h
  go_enter Yba.func28, Yba.ntmps28
  go_wp2
  go_ret
  exact ⟨rfl, rfl⟩

theorem has_second (sb so pb i0 i1 q : Nat) (w : World) (hp : Pool w pb) (hq : q < 4) (c0 : w.cell? ⟨sb, so, none⟩ = some (.pointer (pp pb i0))) (c1 : w.cell? ⟨sb, so + 1, none⟩ = some (.pointer (pp pb i1))) (h : ¬ i0 = q) (h1 : i1 = q) :
    Calls Yba.prog 28 #[.pointer (some ⟨sb, so, none⟩), .pointer (some ⟨pb + q, 0, none⟩)] w fun e w' => e = .returned (.bool true) ∧ w' = w := by
  have e0 := eql_pool hp i0 q hq
  rw [show (i0 == q) = false by simpa using h] at e0
  have e1 := eql_pool hp i1 q hq
  rw [show (i1 == q) = true by simpa using h1] at e1
  clear h h1
  go_enter Yba.func28, Yba.ntmps28
  go_wp2
  go_ret
  exact ⟨rfl, rfl⟩

theorem has_nil (sb so pb i0 i1 q : Nat) (w : World) (hp : Pool w pb) (hq : q < 4) (c0 : w.cell? ⟨sb, so, none⟩ = some (.pointer (pp pb i0))) (c1 : w.cell? ⟨sb, so + 1, none⟩ = some (.pointer (pp pb i1)))
    (c2 : w.cell? ⟨sb, so + 2, none⟩ = some (.map none)) (h : ¬ i0 = q) (h1 : ¬ i1 = q) :
    Calls Yba.prog 28 #[.pointer (some ⟨sb, so, none⟩), .pointer (some ⟨pb + q, 0, none⟩)] w fun e w' => e = .returned (.bool false) ∧ w' = w := by
  have e0 := eql_pool hp i0 q hq
  rw [show (i0 == q) = false by simpa using h] at e0
  have e1 := eql_pool hp i1 q hq
  rw [show (i1 == q) = false by simpa using h1] at e1
  clear h h1
  go_enter Yba.func28, Yba.ntmps28
  go_wp2
  go_ret
  exact ⟨rfl, rfl⟩

set_option maxRecDepth 100000 in
theorem has_map (sb so pb i0 i1 q mb c : Nat) (ps : List Ent) (w : World) (hp : Pool w pb) (hq : q < 4) (c0 : w.cell? ⟨sb, so, none⟩ = some (.pointer (pp pb i0))) (c1 : w.cell? ⟨sb, so + 1, none⟩ = some (.pointer (pp pb i1)))
    (c2 : w.cell? ⟨sb, so + 2, none⟩ = some (.map (some mb))) (hps : ∀ p ∈ ps, p.1 < 4 ∧ ∃ b, p.2.1 = .bool b) (hb : w.heap[mb]? = some (.map (ents (K pb) ps).toArray c)) (h : ¬ i0 = q) (h1 : ¬ i1 = q) (hne : 0 < ps.length) :
    Calls Yba.prog 28 #[.pointer (some ⟨sb, so, none⟩), .pointer (some ⟨pb + q, 0, none⟩)] w fun e w' => e = .returned (.bool (valB q ps)) ∧ w' = w := by
  have e0 := eql_pool hp i0 q hq
  rw [show (i0 == q) = false by simpa using h] at e0
  have e1 := eql_pool hp i1 q hq
  rw [show (i1 == q) = false by simpa using h1] at e1
  have hlk := run_look hp hps hb q hq
  have hln := run_len (P := Yba.prog) (W := w) (ty := 3) Yba.underlying112 mb ps c hb
  have hpos : (0 : Int) < (ps.length : Int) := by omega
  generalize ps.length = n at *
  clear h h1 hps hb
  go_enter Yba.func28, Yba.ntmps28
  go_wp2
  go_ret
  exact ⟨rfl, rfl⟩

set_option maxRecDepth 100000 in
theorem has_empty (sb so pb i0 i1 q mb c : Nat) (w : World) (hp : Pool w pb) (hq : q < 4) (c0 : w.cell? ⟨sb, so, none⟩ = some (.pointer (pp pb i0))) (c1 : w.cell? ⟨sb, so + 1, none⟩ = some (.pointer (pp pb i1)))
    (c2 : w.cell? ⟨sb, so + 2, none⟩ = some (.map (some mb))) (hb : w.heap[mb]? = some (.map (ents (K pb) []).toArray c)) (h : ¬ i0 = q) (h1 : ¬ i1 = q) :
    Calls Yba.prog 28 #[.pointer (some ⟨sb, so, none⟩), .pointer (some ⟨pb + q, 0, none⟩)] w fun e w' => e = .returned (.bool false) ∧ w' = w := by
  have e0 := eql_pool hp i0 q hq
  rw [show (i0 == q) = false by simpa using h] at e0
  have e1 := eql_pool hp i1 q hq
  rw [show (i1 == q) = false by simpa using h1] at e1
  have hln : (Builtin.len_ #[112] 3 #[.map (some mb)]).run Yba.prog w = .ok (.int .i64 0) w := run_len (P := Yba.prog) (W := w) (ty := 3) Yba.underlying112 mb [] c hb
  clear h h1 hb
  go_enter Yba.func28, Yba.ntmps28
  go_wp2
  go_ret
  exact ⟨rfl, rfl⟩

/-- (*txnSet).has: a first slot, or a key of the map that holds true -/
theorem has_any (sb so pb i0 i1 q : Nat) (r : Option Nat) (ps : List Ent) (w : World) (hp : Pool w pb) (hq : q < 4) (c0 : w.cell? ⟨sb, so, none⟩ = some (.pointer (pp pb i0))) (c1 : w.cell? ⟨sb, so + 1, none⟩ = some (.pointer (pp pb i1)))
    (c2 : w.cell? ⟨sb, so + 2, none⟩ = some (.map r)) (hm : MapAt w pb r ps) :
    Calls Yba.prog 28 #[.pointer (some ⟨sb, so, none⟩), .pointer (some ⟨pb + q, 0, none⟩)] w fun e w' => e = .returned (.bool (i0 == q || (i1 == q || valB q ps))) ∧ w' = w := by
  by_cases h : i0 = q
  · rw [show (i0 == q) = true by simpa using h, Bool.true_or]
    exact has_first sb so pb i0 q w hp hq c0 h
  · rw [show (i0 == q) = false by simpa using h, Bool.false_or]
    by_cases h1 : i1 = q
    · rw [show (i1 == q) = true by simpa using h1, Bool.true_or]
      exact has_second sb so pb i0 i1 q w hp hq c0 c1 h h1
    · rw [show (i1 == q) = false by simpa using h1, Bool.false_or]
      obtain ⟨hps, ⟨rfl, rfl⟩ | ⟨mb, c, rfl, hb⟩⟩ := hm
      · exact has_nil sb so pb i0 i1 q w hp hq c0 c1 c2 h h1
      · cases ps with
        | nil => exact has_empty sb so pb i0 i1 q mb c w hp hq c0 c1 c2 hb h h1
        | cons p ps => exact has_map sb so pb i0 i1 q mb c (p :: ps) w hp hq c0 c1 c2 hps hb h h1 (by simp)
end Go.Proofs.Ybulkboaa.CHas
