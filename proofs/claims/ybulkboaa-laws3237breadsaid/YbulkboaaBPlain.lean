namespace Go.Proofs.Ybulkboaa.BPlain

/-- the nodes of l, one after the other, lead from a to c -/
def Trail (es : List (Nat × Nat)) : List Nat → Nat → Nat → Prop
  | [], a, c => a = c
  | b :: l, a, c => (a, b) ∈ es ∧ Trail es l b c

/-- a path of the graph, of whatever length -/
def Path (es : List (Nat × Nat)) (a c : Nat) : Prop := ∃ l, Trail es l a c
theorem Path.refl {es : List (Nat × Nat)} (a : Nat) : Path es a a := ⟨[], rfl⟩
theorem Path.step {es : List (Nat × Nat)} {a b c : Nat} (e : (a, b) ∈ es) (h : Path es b c) : Path es a c := by
  obtain ⟨l, hl⟩ := h
  exact ⟨b :: l, e, hl⟩

theorem Path.snoc {es : List (Nat × Nat)} {a b c : Nat} (h : Path es a b) (e : (b, c) ∈ es) : Path es a c := by
  obtain ⟨l, hl⟩ := h
  induction l generalizing a with
  | nil => cases hl; exact .step e (.refl _)
  | cons x l ih => exact .step hl.1 (ih hl.2)

/-- a path of one edge or more leads from a node of src to a node that is looked for -/
def Hit (es : List (Nat × Nat)) (aim : Nat → Prop) (src : Nat → Prop) : Prop := ∃ u d v, src u ∧ (u, d) ∈ es ∧ Path es d v ∧ aim v

/-- a node met by the search: at the end of a path from a node of src -/
def Met (es : List (Nat × Nat)) (src : Nat → Prop) (u : Nat) : Prop := ∃ s, src s ∧ Path es s u

theorem Met.step {es : List (Nat × Nat)} {src : Nat → Prop} {u d : Nat} (h : Met es src u) (e : (u, d) ∈ es) : Met es src d := by
  obtain ⟨s, h1, h2⟩ := h
  exact ⟨s, h1, h2.snoc e⟩

/-- an edge from a node that was met leads to a node that is looked for -/
theorem hit_of_met {es : List (Nat × Nat)} {aim src : Nat → Prop} {u d : Nat} (h : Met es src u) (e : (u, d) ∈ es) (ha : aim d) : Hit es aim src := by
  obtain ⟨s, h1, l, h2⟩ := h
  cases l with
  | nil => cases h2; exact ⟨_, d, d, h1, e, .refl _, ha⟩
  | cons x l => exact ⟨_, x, d, h1, h2.1, Path.snoc ⟨l, h2.2⟩ e, ha⟩

/-- a set that holds the start and is closed under edges, none of which leads to a node that is looked for -/
theorem no_hit {es : List (Nat × Nat)} {aim src C : Nat → Prop} (hs : ∀ u, src u → C u) (hc : ∀ u d, C u → (u, d) ∈ es → ¬ aim d ∧ C d) : ¬ Hit es aim src := by
  rintro ⟨u, d, v, h1, h2, ⟨l, h3⟩, h4⟩
  obtain ⟨ha, hd⟩ := hc u d (hs u h1) h2
  clear h1 h2 u
  induction l generalizing d with
  | nil => cases h3; exact ha h4
  | cons x l ih =>
    obtain ⟨ha', hd'⟩ := hc _ _ hd h3.1
    exact ih x h3.2 ha' hd'

theorem hit_or {es : List (Nat × Nat)} {aim s1 s2 : Nat → Prop} : Hit es aim (fun u => s1 u ∨ s2 u) ↔ Hit es aim s1 ∨ Hit es aim s2 := by
  constructor
  · rintro ⟨u, d, v, h | h, r⟩
    · exact .inl ⟨u, d, v, h, r⟩
    · exact .inr ⟨u, d, v, h, r⟩
  · rintro (⟨u, d, v, h, r⟩ | ⟨u, d, v, h, r⟩)
    · exact ⟨u, d, v, .inl h, r⟩
    · exact ⟨u, d, v, .inr h, r⟩

theorem hit_none {es : List (Nat × Nat)} {aim : Nat → Prop} : ¬ Hit es aim (fun _ => False) := by
  rintro ⟨_, _, _, h, _⟩
  exact h

/-- the ends of the edges of node u, in the edges' order -/
def outs (es : List (Nat × Nat)) (u : Nat) : List Nat := (es.filter (fun e => e.1 == u)).map (·.2)
theorem mem_outs {es : List (Nat × Nat)} {u d : Nat} : d ∈ outs es u ↔ (u, d) ∈ es := by
  unfold outs
  rw [List.mem_map]
  constructor
  · rintro ⟨⟨a, b⟩, h, rfl⟩
    rw [List.mem_filter] at h
    simp at h
    obtain ⟨h1, rfl⟩ := h
    exact h1
  · intro h
    exact ⟨(u, d), List.mem_filter.2 ⟨h, by simp⟩, rfl⟩
theorem outs_snoc (es : List (Nat × Nat)) (s d u : Nat) : outs (es ++ [(s, d)]) u = if s = u then outs es u ++ [d] else outs es u := by
  unfold outs
  rw [List.filter_append, List.map_append]
  by_cases h : s = u
  · simp [h]
  · simp [h]
/-- how many edges lead to node d -/
def ins (es : List (Nat × Nat)) (d : Nat) : Nat := (es.filter (fun e => e.2 == d)).length
theorem ins_snoc (es : List (Nat × Nat)) (s d u : Nat) : ins (es ++ [(s, d)]) u = if d = u then ins es u + 1 else ins es u := by
  unfold ins
  rw [List.filter_append, List.length_append]
  by_cases h : d = u
  · simp [h]
  · simp [h]
end Go.Proofs.Ybulkboaa.BPlain
