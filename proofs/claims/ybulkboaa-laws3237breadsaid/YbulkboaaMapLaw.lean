import Derived.WalkKit
import Derived.MapKept
import Derived.ChangeMaps4
namespace Go.Proofs.Ybulkboaa.MapLaw
set_option linter.unusedVariables false

/-- a map's entries: (the key's number, the value, the stamp) -/
abbrev Ent := Nat × Value × Nat
def ents (K : Nat → Value) (ps : List Ent) : List MapEntry := ps.map fun p => ⟨K p.1, p.2.1, p.2.2⟩

/-- the first entry of key q: its place (counted from i) and its value -/
def findFrom (q : Nat) : List Ent → Nat → Option (Nat × Value)
  | [], _ => none
  | p :: ps, i => if q == p.1 then some (i, p.2.1) else findFrom q ps (i + 1)

/-- the value of key q -/
def lookE (q : Nat) : List Ent → Option Value
  | [] => none
  | p :: ps => if q == p.1 then some p.2.1 else lookE q ps

/-- m[q] = v -/
def upd (q : Nat) (v : Value) (c : Nat) : List Ent → List Ent
  | [] => [(q, v, c)]
  | p :: ps => if q == p.1 then (p.1, v, p.2.2) :: ps else p :: upd q v c ps

def clockAfter (q : Nat) (c : Nat) (ps : List Ent) : Nat := if (lookE q ps).isSome then c else c + 1

theorem findFrom_lookE (q : Nat) (ps : List Ent) (i : Nat) : (findFrom q ps i).map (·.2) = lookE q ps := by
  induction ps generalizing i with
  | nil => rfl
  | cons p ps ih =>
    unfold findFrom lookE
    split
    · rfl
    · exact ih (i + 1)

theorem lookE_upd (q q' : Nat) (v : Value) (c : Nat) (ps : List Ent) : lookE q' (upd q v c ps) = if q' = q then some v else lookE q' ps := by
  induction ps with
  | nil =>
    unfold upd lookE
    by_cases h : q' = q
    · simp [h]
    · simp [h, lookE]
  | cons p ps ih =>
    unfold upd
    by_cases hq : q = p.1
    · subst hq
      simp only [beq_self_eq_true, if_true]
      unfold lookE
      by_cases h : q' = p.1
      · simp [h]
      · simp [h]
    · simp only [beq_iff_eq, hq, if_false]
      unfold lookE
      rw [ih]
      by_cases h : q' = p.1
      · have : ¬ q' = q := fun e => hq (e.symm.trans h)
        simp [h]
        intro e
        exact absurd e.symm hq
      · simp [h]

/-- the keys are told apart by their numbers, in this world -/
structure Keys (P : Program) (W : World) (kt : TypeId) (K : Nat → Value) (n : Nat) : Prop where
  eq : ∀ i j, i < n → j < n → (Op.equal kt (K i) (K j)).run P W = .ok (i == j) W
  check : ∀ e i, i < n → (Instr.checkKey e 10000 kt (K i)).run P W = .ok () W
  under : ∃ d, P.underlying kt = some d ∧ ∀ i j, i < n → j < n → Instr.sameNow d (K i) (K j) = none
  bits : ∀ i, i < n → Instr.sameBits 10000 (K i) (K i) = true

section
variable {P : Program} {W : World} {kt : TypeId} {K : Nat → Value} {n : Nat}

theorem run_findAsking (hk : Keys P W kt K n) (q : Nat) (hq : q < n) (ps : List Ent) (hps : ∀ p ∈ ps, p.1 < n) (i : Nat) :
    (Instr.findAsking kt (K q) (ents K ps) i).run P W = .ok (findFrom q ps i) W := by
  induction ps generalizing i with
  | nil => rfl
  | cons p ps ih =>
    have hp : p.1 < n := hps p (by simp)
    show (Instr.findAsking kt (K q) (⟨K p.1, p.2.1, p.2.2⟩ :: ents K ps) i).run P W = _
    unfold Instr.findAsking findFrom
    simp only [Sem.run_bind, hk.eq q p.1 hq hp, Result.andThen_ok]
    by_cases h : q = p.1
    · simp [h]
    · simp only [beq_iff_eq, h, if_false]
      exact ih (fun x hx => hps x (by simp [hx])) (i + 1)

theorem run_findKey (hk : Keys P W kt K n) (q : Nat) (hq : q < n) (ps : List Ent) (hps : ∀ p ∈ ps, p.1 < n) :
    (Instr.findKey kt (K q) (ents K ps)).run P W = .ok (findFrom q ps 0) W := by
  obtain ⟨d, hd, hs⟩ := hk.under
  unfold Instr.findKey
  simp only [Sem.run_bind, run_underlying hd, Result.andThen_ok]
  cases ps with
  | nil => rfl
  | cons p ps =>
    have e : Instr.findNow d (K q) (ents K (p :: ps)) 0 = none := by
      show Instr.findNow d (K q) (⟨K p.1, p.2.1, p.2.2⟩ :: ents K ps) 0 = none
      unfold Instr.findNow
      simp [hs q p.1 hq (hps p (by simp))]
    rw [e]
    exact run_findAsking hk q hq (p :: ps) hps 0

/-- m[q] of a map that is not nil -/
theorem run_lookup {mt et : TypeId} {z : Value} (hmt : P.underlying mt = some (.map kt et)) (hz : ∀ w, (zeroValue et).run P w = .ok z w) (hk : Keys P W kt K n) (r : Nat) (ps : List Ent) (c : Nat)
    (hb : W.heap[r]? = some (.map (ents K ps).toArray c)) (q : Nat) (hq : q < n) (hps : ∀ p ∈ ps, p.1 < n) :
    (Instr.lookup mt (.map (some r)) (K q) false).run P W = .ok ((lookE q ps).getD z) W := by
  unfold Instr.lookup
  simp only [Sem.run_bind, run_underlying hmt, Result.andThen_ok, MapKept.run_getObj_map hb, Sem.run_pure, hk.check _ q hq, run_findKey hk q hq ps hps]
  have h := findFrom_lookE q ps 0
  cases hf : findFrom q ps 0 with
  | none => rw [hf] at h; simp at h; simp [← h, hz]
  | some x => rw [hf] at h; simp at h; simp [← h]

/-- len(m) -/
theorem run_len {mt et ty : TypeId} (hmt : P.underlying mt = some (.map kt et)) (r : Nat) (ps : List Ent) (c : Nat) (hb : W.heap[r]? = some (.map (ents K ps).toArray c)) :
    (Builtin.len_ #[mt] ty #[.map (some r)]).run P W = .ok (.int .i64 (ps.length : Int)) W := by
  unfold Builtin.len_
  simp [Sem.run_bind, run_underlying hmt, MapKept.run_getObj_map hb, ents, goInt]

/-- m[q] of a nil map -/
theorem run_lookup_nil {mt et : TypeId} {z : Value} (hmt : P.underlying mt = some (.map kt et)) (hz : ∀ w, (zeroValue et).run P w = .ok z w) (hk : Keys P W kt K n) (q : Nat) (hq : q < n) :
    (Instr.lookup mt (.map none) (K q) false).run P W = .ok z W := by
  have hf := run_findKey hk q hq [] (fun p hp => by cases hp)
  unfold Instr.lookup
  simp only [Sem.run_bind, run_underlying hmt, Result.andThen_ok, Sem.run_pure, hk.check _ q hq]
  have e : (Instr.findKey kt (K q) (#[] : Array MapEntry).toList).run P W = .ok none W := hf
  simp [e, hz]

theorem modify_ents (q : Nat) (v : Value) (c : Nat) (ps : List Ent) (i j : Nat) (x : Value) (h : findFrom q ps i = some (j, x)) :
    i ≤ j ∧ ((ents K ps)[j - i]?).map (·.key) = some (K q) ∧ (ents K ps).modify (j - i) (fun e => { e with key := K q, val := v }) = ents K (upd q v c ps) := by
  induction ps generalizing i with
  | nil => cases h
  | cons p ps ih =>
    unfold findFrom at h
    have e0 : ents K (p :: ps) = ⟨K p.1, p.2.1, p.2.2⟩ :: ents K ps := rfl
    by_cases hq : q = p.1
    · subst hq
      simp at h
      obtain ⟨rfl, rfl⟩ := h
      refine ⟨Nat.le_refl _, ?_, ?_⟩
      · rw [e0]; simp
      · rw [e0]
        simp [upd, ents]
    · simp only [beq_iff_eq, hq, if_false] at h
      obtain ⟨h1, h2, h3⟩ := ih (i + 1) h
      have ej : j - i = (j - (i + 1)) + 1 := by omega
      refine ⟨by omega, ?_, ?_⟩
      · rw [e0, ej]; simpa using h2
      · rw [e0, ej]
        unfold upd
        simp only [beq_iff_eq, hq, if_false]
        rw [List.modify_succ_cons, h3]
        rfl

theorem upd_none (q : Nat) (v : Value) (c : Nat) (ps : List Ent) (i : Nat) (h : findFrom q ps i = none) : upd q v c ps = ps ++ [(q, v, c)] := by
  induction ps generalizing i with
  | nil => rfl
  | cons p ps ih =>
    unfold findFrom at h
    by_cases hq : q = p.1
    · simp [hq] at h
    · simp only [beq_iff_eq, hq, if_false] at h
      unfold upd
      simp only [beq_iff_eq, hq, if_false]
      rw [ih (i + 1) h]
      rfl

/-- m[q] = v -/
theorem run_mapUpdate {mt et : TypeId} (hmt : P.underlying mt = some (.map kt et)) (hk : Keys P W kt K n) (r : Nat) (ps : List Ent) (c : Nat)
    (hb : W.heap[r]? = some (.map (ents K ps).toArray c)) (q : Nat) (hq : q < n) (hps : ∀ p ∈ ps, p.1 < n) (v : Value) :
    (Instr.mapUpdate mt (.map (some r)) (K q) v).run P W = .ok () (ChangeMaps.setBlock W r (.map (ents K (upd q v c ps)).toArray (clockAfter q c ps))) := by
  have hl := findFrom_lookE q ps 0
  unfold Instr.mapUpdate
  simp only [Sem.run_bind, run_underlying hmt, Result.andThen_ok, MapKept.run_getObj_map hb, hk.check _ q hq, run_findKey hk q hq ps hps]
  cases hf : findFrom q ps 0 with
  | none =>
    rw [hf] at hl
    simp at hl
    have hn : clockAfter q c ps = c + 1 := by simp [clockAfter, ← hl]
    simp only [MapKept.run_setObj_map _ hb]
    rw [hn, upd_none q v c ps 0 hf]
    simp [ents, ChangeMaps.setBlock]
  | some x =>
    obtain ⟨j, y⟩ := x
    rw [hf] at hl
    simp at hl
    have hn : clockAfter q c ps = c := by simp [clockAfter, ← hl]
    obtain ⟨_, h2, h3⟩ := modify_ents (K := K) q v c ps 0 j y hf
    have e2 : (((ents K ps).toArray[j]?).map (·.key)).getD (K q) = K q := by simpa using congrArg (·.getD (K q)) h2
    have e3 : (Instr.keyThatStays (K q) (K q)).run P W = .ok (K q) W := by unfold Instr.keyThatStays; simp [hk.bits q hq]
    simp only [Sem.run_bind, e2, e3, Result.andThen_ok, MapKept.run_setObj_map _ hb]
    rw [hn, ← h3]
    simp [ChangeMaps.setBlock]
end
end Go.Proofs.Ybulkboaa.MapLaw
