import Derived.Test.YbulkbnzmDoorPlain
namespace Go.Proofs.YbulkbnzmDoor.Plain
open MapLaw
set_option linter.unusedVariables false

/-- a map's entries in order: each key once and below 3, each stamp once and below the clock -/
structure Good (ps : List Ent) (c : Nat) : Prop where
  keys : (ps.map (·.1)).Nodup
  lt : ∀ p ∈ ps, p.1 < 3
  st : Stamps ps c

theorem Good.start : Good [] 0 := ⟨by simp, fun p hp => (by cases hp), ⟨by simp, fun p hp => (by cases hp)⟩⟩

theorem lookE_mem (q : Nat) (ps : List Ent) : (lookE q ps).isSome ↔ q ∈ ps.map (·.1) := by
  induction ps with
  | nil => simp [lookE]
  | cons p ps ih =>
    unfold lookE
    by_cases h : q = p.1
    · simp [h]
    · simp only [beq_iff_eq, h, if_false, ih, List.map_cons, List.mem_cons, false_or]

theorem upd_keys (q : Nat) (v : Value) (c : Nat) (ps : List Ent) : (upd q v c ps).map (·.1) = if (lookE q ps).isSome then ps.map (·.1) else ps.map (·.1) ++ [q] := by
  induction ps with
  | nil => simp [upd, lookE]
  | cons p ps ih =>
    unfold upd lookE
    by_cases h : q = p.1
    · simp [h]
    · simp only [beq_iff_eq, h, if_false, List.map_cons, ih]
      split <;> rfl
theorem upd_stamps (q : Nat) (v : Value) (c : Nat) (ps : List Ent) : (upd q v c ps).map (·.2.2) = if (lookE q ps).isSome then ps.map (·.2.2) else ps.map (·.2.2) ++ [c] := by
  induction ps with
  | nil => simp [upd, lookE]
  | cons p ps ih =>
    unfold upd lookE
    by_cases h : q = p.1
    · simp [h]
    · simp only [beq_iff_eq, h, if_false, List.map_cons, ih]
      split <;> rfl

theorem Good.upd {ps : List Ent} {c : Nat} (h : Good ps c) {q : Nat} (hq : q < 3) (v : Value) : Good (upd q v c ps) (clockAfter q c ps) := by
  have hk := upd_keys q v c ps
  have hs := upd_stamps q v c ps
  have hlt : ∀ x ∈ ps.map (·.1), x < 3 := fun x hx => by obtain ⟨p, hp, rfl⟩ := List.mem_map.1 hx; exact h.lt p hp
  have hst : ∀ x ∈ ps.map (·.2.2), x < c := fun x hx => by obtain ⟨p, hp, rfl⟩ := List.mem_map.1 hx; exact h.st.2 p hp
  by_cases hl : (lookE q ps).isSome = true
  · rw [if_pos hl] at hk hs
    have hc : clockAfter q c ps = c := by simp [clockAfter, hl]
    rw [hc]
    refine ⟨by rw [hk]; exact h.keys, fun p hp => ?_, by rw [hs]; exact h.st.1, fun p hp => ?_⟩
    · exact hlt p.1 (by rw [← hk]; exact List.mem_map_of_mem hp)
    · exact hst p.2.2 (by rw [← hs]; exact List.mem_map_of_mem hp)
  · rw [if_neg hl] at hk hs
    have hc : clockAfter q c ps = c + 1 := by simp [clockAfter, hl]
    rw [hc]
    have hn : q ∉ ps.map (·.1) := fun hm => hl ((lookE_mem q ps).2 hm)
    refine ⟨?_, fun p hp => ?_, ?_, fun p hp => ?_⟩
    · rw [hk, List.nodup_append]
      refine ⟨h.keys, by simp, fun a ha b hb e => ?_⟩
      rw [List.mem_singleton] at hb
      rw [e, hb] at ha
      exact hn ha
    · have := List.mem_map_of_mem (f := (·.1)) hp
      rw [hk, List.mem_append, List.mem_singleton] at this
      rcases this with h1 | h1
      · exact hlt _ h1
      · omega
    · rw [hs, List.nodup_append]
      refine ⟨h.st.1, by simp, fun a ha b hb e => ?_⟩
      rw [List.mem_singleton] at hb
      have := hst a ha
      omega
    · have := List.mem_map_of_mem (f := (·.2.2)) hp
      rw [hs, List.mem_append, List.mem_singleton] at this
      rcases this with h1 | h1
      · have := hst _ h1; omega
      · omega

theorem del_sub (q : Nat) (ps : List Ent) : (del q ps).Sublist ps := by
  induction ps with
  | nil => exact List.Sublist.refl _
  | cons p ps ih =>
    unfold del
    split
    · exact List.sublist_cons_self _ _
    · exact ih.cons_cons p

theorem Good.del {ps : List Ent} {c : Nat} (h : Good ps c) (q : Nat) : Good (del q ps) c :=
  ⟨((del_sub q ps).map _).nodup h.keys, fun p hp => h.lt p ((del_sub q ps).subset hp), ((del_sub q ps).map _).nodup h.st.1, fun p hp => h.st.2 p ((del_sub q ps).subset hp)⟩

theorem lookE_del_other (q q' : Nat) (ps : List Ent) (h : q' ≠ q) : lookE q' (del q ps) = lookE q' ps := by
  induction ps with
  | nil => rfl
  | cons p ps ih =>
    unfold del
    by_cases hq : q = p.1
    · subst hq
      simp [lookE, h]
    · simp only [beq_iff_eq, hq, if_false, lookE, ih]
theorem lookE_del_same (q : Nat) (ps : List Ent) (hn : (ps.map (·.1)).Nodup) : lookE q (del q ps) = none := by
  induction ps with
  | nil => rfl
  | cons p ps ih =>
    simp only [List.map_cons, List.nodup_cons] at hn
    unfold del
    by_cases hq : q = p.1
    · subst hq
      simp only [beq_self_eq_true, if_true]
      cases hl : lookE p.1 ps with
      | none => rfl
      | some v => exact absurd ((lookE_mem p.1 ps).1 (by simp [hl])) hn.1
    · simp only [beq_iff_eq, hq, if_false, lookE]
      exact ih hn.2

/-- how many of the first n prefixes have dependents -/
def usedN (L : Nat → List Nat) (n : Nat) : Nat := ((List.range n).filter fun g => decide (0 < (L g).length)).length
theorem usedN_zero (L : Nat → List Nat) : usedN L 0 = 0 := rfl
theorem usedN_succ (L : Nat → List Nat) (n : Nat) : usedN L (n + 1) = usedN L n + (if 0 < (L n).length then 1 else 0) := by
  unfold usedN
  rw [List.range_succ, List.filter_append, List.length_append]
  by_cases h : 0 < (L n).length <;> simp [h]

theorem Good.length {ps : List Ent} {c : Nat} (h : Good ps c) {L : Nat → List Nat} (hL : ∀ g, g < 3 → ((lookE g ps).isSome = true ↔ 0 < (L g).length)) : ps.length = usedN L 3 := by
  unfold usedN
  rw [← List.length_map (f := (·.1)) (as := ps)]
  refine List.Perm.length_eq ((List.perm_ext_iff_of_nodup h.keys (List.nodup_range.filter _)).2 fun g => ?_)
  rw [List.mem_filter, List.mem_range]
  constructor
  · intro hg
    have hlt : g < 3 := by obtain ⟨p, hp, rfl⟩ := List.mem_map.1 hg; exact h.lt p hp
    exact ⟨hlt, by simpa using (hL g hlt).1 ((lookE_mem g ps).2 hg)⟩
  · rintro ⟨h1, h2⟩
    exact (lookE_mem g ps).1 ((hL g h1).2 (by simpa using h2))
end Go.Proofs.YbulkbnzmDoor.Plain
