namespace Go.Proofs.Ybulkboaa.APlain

/-- element b of the numbers; 0 where there is none -/
def val (zs : List Int) (b : Int) : Int := if b < 0 then 0 else zs.getD b.toNat 0

/-- the first search: the earliest of the greatest positive ones among the first k; -1 where there is none -/
def b0 (zs : List Int) : Nat → Int
  | 0 => -1
  | k + 1 => if 0 < zs.getD k 0 ∧ (b0 zs k < 0 ∨ val zs (b0 zs k) < zs.getD k 0) then (k : Int) else b0 zs k

/-- the second search: the same, B left out -/
def b1 (zs : List Int) (B : Int) : Nat → Int
  | 0 => -1
  | k + 1 => if (k : Int) ≠ B ∧ 0 < zs.getD k 0 ∧ (b1 zs B k < 0 ∨ val zs (b1 zs B k) < zs.getD k 0) then (k : Int) else b1 zs B k

structure St where
  t0 : Int
  t1 : Int
  a0 : Int
  a1 : Int

/-- one step of (*lastEnds).add by a transaction that is not the first one's -/
def St.add (s : St) (t a : Int) : St :=
  if s.a0 < a then ⟨t, s.t0, a, s.a0⟩ else if s.a1 < a then ⟨s.t0, t, s.a0, a⟩ else s

def st (zs : List Int) : Nat → St
  | 0 => ⟨0, 0, 0, 0⟩
  | k + 1 => (st zs k).add ((k : Int) + 1) (zs.getD k 0)

theorem b0_inv (zs : List Int) (k : Nat) : -1 ≤ b0 zs k ∧ b0 zs k < k ∧ (0 ≤ b0 zs k → 0 < val zs (b0 zs k)) := by
  induction k with
  | zero => simp [b0]
  | succ k ih =>
    unfold b0
    split
    · rename_i h
      refine ⟨by omega, by omega, fun _ => ?_⟩
      unfold val
      rw [if_neg (by omega)]
      simpa using h.1
    · exact ⟨ih.1, by omega, ih.2.2⟩

theorem b1_inv (zs : List Int) (B : Int) (k : Nat) : -1 ≤ b1 zs B k ∧ b1 zs B k < k ∧ (0 ≤ b1 zs B k → 0 < val zs (b1 zs B k)) := by
  induction k with
  | zero => simp [b1]
  | succ k ih =>
    unfold b1
    split
    · rename_i h
      refine ⟨by omega, by omega, fun _ => ?_⟩
      unfold val
      rw [if_neg (by omega)]
      simpa using h.2.1
    · exact ⟨ih.1, by omega, ih.2.2⟩

/-- where B lies behind the first k, leaving it out leaves the search as it is -/
theorem b1_far (zs : List Int) (B : Int) (k : Nat) (h : (k : Int) ≤ B) : b1 zs B k = b0 zs k := by
  induction k with
  | zero => rfl
  | succ k ih =>
    have := ih (by omega)
    unfold b1 b0
    rw [this]
    have hk : (k : Int) ≠ B := by omega
    simp [hk]

theorem val_neg (zs : List Int) (b : Int) (h : b < 0) : val zs b = 0 := by simp [val, h]

theorem st_eq (zs : List Int) (k : Nat) : st zs k = ⟨b0 zs k + 1, b1 zs (b0 zs k) k + 1, val zs (b0 zs k), val zs (b1 zs (b0 zs k) k)⟩ := by
  induction k with
  | zero => simp [st, b0, b1, val]
  | succ k ih =>
    have h0 := b0_inv zs k
    have h1 := b1_inv zs (b0 zs k) k
    have hvk : val zs (k : Int) = zs.getD k 0 := by unfold val; rw [if_neg (by omega)]; simp
    show (st zs k).add ((k : Int) + 1) (zs.getD k 0) = _
    rw [ih]
    unfold St.add
    simp only
    by_cases c : val zs (b0 zs k) < zs.getD k 0
    · rw [if_pos c]
      have e : b0 zs (k + 1) = k := by
        show (if 0 < zs.getD k 0 ∧ (b0 zs k < 0 ∨ val zs (b0 zs k) < zs.getD k 0) then (k : Int) else b0 zs k) = k
        rw [if_pos]
        refine ⟨?_, .inr c⟩
        rcases Int.lt_or_le (b0 zs k) 0 with hn | hn
        · rw [val_neg zs _ hn] at c; exact c
        · have := h0.2.2 hn; omega
      have e1 : b1 zs k (k + 1) = b0 zs k := by
        show (if (k : Int) ≠ k ∧ _ then (k : Int) else b1 zs k k) = _
        rw [if_neg (by simp)]
        exact b1_far zs k k (Int.le_refl _)
      rw [e, e1, hvk]
    · rw [if_neg c]
      have e : b0 zs (k + 1) = b0 zs k := by
        show (if 0 < zs.getD k 0 ∧ (b0 zs k < 0 ∨ val zs (b0 zs k) < zs.getD k 0) then (k : Int) else b0 zs k) = _
        rw [if_neg]
        rintro ⟨hp, hn | hn⟩
        · rw [val_neg zs _ hn] at c; omega
        · exact c hn
      rw [e]
      have hne : (k : Int) ≠ b0 zs k := by omega
      by_cases d : val zs (b1 zs (b0 zs k) k) < zs.getD k 0
      · rw [if_pos d]
        have e1 : b1 zs (b0 zs k) (k + 1) = k := by
          show (if (k : Int) ≠ b0 zs k ∧ 0 < zs.getD k 0 ∧ (b1 zs (b0 zs k) k < 0 ∨ val zs (b1 zs (b0 zs k) k) < zs.getD k 0) then (k : Int) else b1 zs (b0 zs k) k) = _
          rw [if_pos]
          refine ⟨hne, ?_, .inr d⟩
          rcases Int.lt_or_le (b1 zs (b0 zs k) k) 0 with hn | hn
          · rw [val_neg zs _ hn] at d; exact d
          · have := h1.2.2 hn; omega
        rw [e1, hvk]
      · rw [if_neg d]
        have e1 : b1 zs (b0 zs k) (k + 1) = b1 zs (b0 zs k) k := by
          show (if (k : Int) ≠ b0 zs k ∧ 0 < zs.getD k 0 ∧ (b1 zs (b0 zs k) k < 0 ∨ val zs (b1 zs (b0 zs k) k) < zs.getD k 0) then (k : Int) else b1 zs (b0 zs k) k) = _
          rw [if_neg]
          rintro ⟨_, hp, hn | hn⟩
          · rw [val_neg zs _ hn] at d; omega
          · exact d hn
        rw [e1]
end Go.Proofs.Ybulkboaa.APlain
