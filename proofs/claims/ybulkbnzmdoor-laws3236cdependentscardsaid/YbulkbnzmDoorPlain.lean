import Derived.Test.YbulkbnzmDoorMapLaw
namespace Go.Proofs.YbulkbnzmDoor.Plain
open MapLaw
set_option linter.unusedVariables false

def grp (k : Nat) : Nat := if k ≤ 1 then 0 else k - 1
theorem grp_lt {k : Nat} (h : k < 4) : grp k < 3 := by unfold grp; split <;> omega

/-- f, but v at i -/
def up {α : Type} (f : Nat → α) (i : Nat) (v : α) : Nat → α := fun x => if x = i then v else f x
@[simp] theorem up_same {α : Type} (f : Nat → α) (i : Nat) (v : α) : up f i v i = v := by simp [up]
theorem up_other {α : Type} (f : Nat → α) {i x : Nat} (v : α) (h : x ≠ i) : up f i v x = f x := by simp [up, h]

/-- what the program keeps: m i: the entry on which resolution i lands (4: none); pl i: its place; L g: the dependents of prefix g -/
structure Abs (m : Nat → Nat) (pl : Nat → Int) (L : Nat → List Nat) : Prop where
  le : ∀ i, m i ≤ 4
  off : ∀ i, i < 3 → m i = 4 → pl i = -1
  on : ∀ i, i < 3 → m i < 4 → ∃ j : Nat, pl i = j ∧ (L (grp (m i)))[j]? = some i
  back : ∀ (g j i : Nat), (L g)[j]? = some i → i < 3 ∧ m i < 4 ∧ grp (m i) = g ∧ pl i = j

section
variable {m : Nat → Nat} {pl : Nat → Int} {L : Nat → List Nat}

theorem Abs.nodup (h : Abs m pl L) (g : Nat) : (L g).Nodup := by
  rw [List.nodup_iff_pairwise_ne, List.pairwise_iff_getElem]
  intro i j hi hj hij e
  have h1 := (h.back g i _ (List.getElem?_eq_getElem hi)).2.2.2
  have h2 := (h.back g j _ (List.getElem?_eq_getElem hj)).2.2.2
  rw [e] at h1
  omega

def inG (m : Nat → Nat) (g i : Nat) : Bool := decide (m i < 4) && decide (grp (m i) = g)
def cnt (m : Nat → Nat) (g n : Nat) : Nat := ((List.range n).filter (inG m g)).length

theorem cnt_zero (m : Nat → Nat) (g : Nat) : cnt m g 0 = 0 := rfl
theorem cnt_succ (m : Nat → Nat) (g n : Nat) : cnt m g (n + 1) = cnt m g n + (if inG m g n then 1 else 0) := by
  unfold cnt
  rw [List.range_succ, List.filter_append, List.length_append]
  by_cases h : inG m g n = true <;> simp [h]

theorem Abs.mem (h : Abs m pl L) (g i : Nat) : i ∈ L g ↔ i < 3 ∧ inG m g i = true := by
  constructor
  · intro hi
    obtain ⟨j, hj⟩ := List.getElem?_of_mem hi
    obtain ⟨h1, h2, h3, _⟩ := h.back g j i hj
    exact ⟨h1, by simp [inG, h2, h3]⟩
  · rintro ⟨h1, h2⟩
    simp [inG] at h2
    obtain ⟨j, _, hj⟩ := h.on i h1 h2.1
    rw [h2.2] at hj
    exact List.mem_of_getElem? hj

theorem Abs.cnt (h : Abs m pl L) (g : Nat) : cnt m g 3 = (L g).length := by
  unfold Plain.cnt
  refine List.Perm.length_eq ((List.perm_ext_iff_of_nodup (List.nodup_range.filter _) (h.nodup g)).2 fun i => ?_)
  rw [h.mem g i, List.mem_filter, List.mem_range]

theorem Abs.len (h : Abs m pl L) (g : Nat) : (L g).length ≤ 3 := by
  rw [← h.cnt g]
  unfold Plain.cnt
  exact Nat.le_trans (List.length_filter_le _ _) (by simp)

/-- nothing depended on yet -/
theorem Abs.start : Abs (fun _ => 4) (fun _ => -1) (fun _ => []) where
  le := fun _ => Nat.le_refl _
  off := fun _ _ _ => rfl
  on := fun i _ h => absurd h (by decide)
  back := fun g j i h => by simp at h

/-- resolution i, on nothing, lands on entry k -/
theorem Abs.ins (h : Abs m pl L) {i k : Nat} (hi : i < 3) (hm : m i = 4) (hk : k < 4) :
    Abs (up m i k) (up pl i ((L (grp k)).length : Int)) (up L (grp k) (L (grp k) ++ [i])) where
  le := fun x => by unfold up; split; omega; exact h.le x
  off := fun x hx hm' => by
    by_cases e : x = i
    · subst e; rw [up_same] at hm'; omega
    · rw [up_other _ _ e] at hm' ⊢; exact h.off x hx hm'
  on := fun x hx hm' => by
    by_cases e : x = i
    · subst e
      rw [up_same, up_same, up_same]
      exact ⟨_, rfl, by simp⟩
    · rw [up_other _ _ e] at hm' ⊢
      rw [up_other _ _ e]
      obtain ⟨j, h1, h2⟩ := h.on x hx hm'
      refine ⟨j, h1, ?_⟩
      by_cases eg : grp (m x) = grp k
      · rw [eg] at h2 ⊢
        rw [up_same, List.getElem?_append_left ((List.getElem?_eq_some_iff.1 h2).1)]
        exact h2
      · rw [up_other _ _ eg]; exact h2
  back := fun g j x hj => by
    by_cases eg : g = grp k
    · subst eg
      rw [up_same] at hj
      by_cases hlt : j < (L (grp k)).length
      · rw [List.getElem?_append_left hlt] at hj
        obtain ⟨h1, h2, h3, h4⟩ := h.back _ _ _ hj
        have e : x ≠ i := fun e => by subst e; omega
        rw [up_other _ _ e, up_other _ _ e]
        exact ⟨h1, h2, h3, h4⟩
      · have hj' := (List.getElem?_eq_some_iff.1 hj).1
        simp at hj'
        have ej : j = (L (grp k)).length := by omega
        subst ej
        simp at hj
        subst hj
        rw [up_same, up_same]
        exact ⟨hi, hk, rfl, rfl⟩
    · rw [up_other _ _ eg] at hj
      obtain ⟨h1, h2, h3, h4⟩ := h.back _ _ _ hj
      have e : x ≠ i := fun e => by subst e; omega
      rw [up_other _ _ e, up_other _ _ e]
      exact ⟨h1, h2, h3, h4⟩

/-- resolution i lands on another entry of the same prefix -/
theorem Abs.same (h : Abs m pl L) {i k : Nat} (hi : i < 3) (hm : m i < 4) (hk : k < 4) (hg : grp k = grp (m i)) : Abs (up m i k) pl L where
  le := fun x => by unfold up; split; omega; exact h.le x
  off := fun x hx hm' => by
    by_cases e : x = i
    · subst e; rw [up_same] at hm'; omega
    · rw [up_other _ _ e] at hm'; exact h.off x hx hm'
  on := fun x hx hm' => by
    by_cases e : x = i
    · subst e
      rw [up_same, hg]
      exact h.on x hx hm
    · rw [up_other _ _ e] at hm' ⊢
      exact h.on x hx hm'
  back := fun g j x hj => by
    obtain ⟨h1, h2, h3, h4⟩ := h.back _ _ _ hj
    by_cases e : x = i
    · subst e
      rw [up_same]
      exact ⟨h1, hk, hg.trans h3, h4⟩
    · rw [up_other _ _ e]
      exact ⟨h1, h2, h3, h4⟩

/-- the last of a list takes place p -/
def dropAt (l : List Nat) (p : Nat) : List Nat := ((l.set p (l.getLastD 0))).dropLast

theorem dropAt_length (l : List Nat) (p : Nat) : (dropAt l p).length = l.length - 1 := by simp [dropAt]
theorem last_at {l : List Nat} (h : 0 < l.length) : l[l.length - 1]? = some (l.getLastD 0) := by
  have hl : l.length - 1 < l.length := by omega
  rw [List.getLastD_eq_getLast?, List.getLast?_eq_getElem?, List.getElem?_eq_getElem hl]; rfl

theorem dropAt_get (l : List Nat) (p j : Nat) (hp : p < l.length) : (dropAt l p)[j]? = if j < l.length - 1 then (if j = p then some (l.getLastD 0) else l[j]?) else none := by
  unfold dropAt
  rw [List.getElem?_dropLast, List.length_set]
  split
  · rw [List.getElem?_set]
    by_cases e : j = p
    · subst e; simp [hp]
    · simp [e, Ne.symm e]
  · rfl

/-- resolution i leaves its prefix -/
theorem Abs.rem (h : Abs m pl L) {i p : Nat} (hi : i < 3) (hm : m i < 4) (hp : pl i = (p : Int)) :
    Abs (up m i 4) (up (up pl ((L (grp (m i))).getLastD 0) (p : Int)) i (-1)) (up L (grp (m i)) (dropAt (L (grp (m i))) p)) := by
  obtain ⟨j0, e0, hj0⟩ := h.on i hi hm
  have ej : j0 = p := by omega
  subst ej
  have hpl := (List.getElem?_eq_some_iff.1 hj0).1
  have hlast := last_at (l := L (grp (m i))) (by omega)
  obtain ⟨b1, b2, b3, b4⟩ := h.back _ _ _ hlast
  refine ⟨fun x => ?_, fun x hx hm' => ?_, fun x hx hm' => ?_, fun g j x hj => ?_⟩
  · unfold up; split; omega; exact h.le x
  · by_cases e : x = i
    · subst e; simp
    · rw [up_other _ _ e] at hm' ⊢
      have el : x ≠ (L (grp (m i))).getLastD 0 := fun e => by rw [e] at hm'; omega
      rw [up_other _ _ el]
      exact h.off x hx hm'
  · have e : x ≠ i := fun e => by subst e; rw [up_same] at hm'; omega
    rw [up_other _ _ e] at hm' ⊢
    rw [up_other _ _ e]
    obtain ⟨j, h1, h2⟩ := h.on x hx hm'
    by_cases eg : grp (m x) = grp (m i)
    · rw [eg] at h2 ⊢
      rw [up_same]
      by_cases el : x = (L (grp (m i))).getLastD 0
      · subst el
        rw [up_same]
        refine ⟨j0, rfl, ?_⟩
        have ejl : j = (L (grp (m i))).length - 1 := by omega
        have nej : j ≠ j0 := fun e' => by
          subst e'
          rw [hj0] at h2
          exact e (Option.some.inj h2).symm
        rw [dropAt_get _ _ _ hpl, if_pos (by omega), if_pos rfl]
      · rw [up_other _ _ el]
        refine ⟨j, h1, ?_⟩
        have hjl := (List.getElem?_eq_some_iff.1 h2).1
        have nejl : j ≠ (L (grp (m i))).length - 1 := fun e' => by
          rw [e'] at h2
          rw [hlast] at h2
          exact el (Option.some.inj h2).symm
        have nej : j ≠ j0 := fun e' => by
          subst e'
          rw [hj0] at h2
          exact e (Option.some.inj h2).symm
        rw [dropAt_get _ _ _ hpl, if_pos (by omega), if_neg nej]
        exact h2
    · rw [up_other _ _ eg]
      have el : x ≠ (L (grp (m i))).getLastD 0 := fun e' => by rw [← e'] at b3; exact eg b3
      rw [up_other _ _ el]
      exact ⟨j, h1, h2⟩
  · by_cases eg : g = grp (m i)
    · subst eg
      rw [up_same, dropAt_get _ _ _ hpl] at hj
      split at hj
      · rename_i hjl
        split at hj
        · rename_i ejp
          subst ejp
          have ex : x = (L (grp (m i))).getLastD 0 := (Option.some.inj hj).symm
          have e : x ≠ i := fun e' => by
            rw [e'] at ex
            rw [← ex] at hlast
            have := (h.back _ _ _ hlast).2.2.2
            omega
          rw [up_other _ _ e, up_other _ _ e, ex, up_same]
          exact ⟨b1, b2, b3, rfl⟩
        · rename_i nej
          obtain ⟨h1, h2, h3, h4⟩ := h.back _ _ _ hj
          have e : x ≠ i := fun e' => by subst e'; omega
          have el : x ≠ (L (grp (m i))).getLastD 0 := fun e' => by rw [e'] at h4; omega
          rw [up_other _ _ e, up_other _ _ e, up_other _ _ el]
          exact ⟨h1, h2, h3, h4⟩
      · cases hj
    · rw [up_other _ _ eg] at hj
      obtain ⟨h1, h2, h3, h4⟩ := h.back _ _ _ hj
      have e : x ≠ i := fun e' => by subst e'; exact eg h3.symm
      have el : x ≠ (L (grp (m i))).getLastD 0 := fun e' => by rw [e'] at h3; exact eg (h3.symm.trans b3)
      rw [up_other _ _ e, up_other _ _ e, up_other _ _ el]
      exact ⟨h1, h2, h3, h4⟩
end
end Go.Proofs.YbulkbnzmDoor.Plain
