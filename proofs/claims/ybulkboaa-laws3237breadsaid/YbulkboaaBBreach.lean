import Derived.Test.YbulkboaaCBase
import Derived.Test.YbulkboaaBPlain
import Derived.Deep.AppendLies
import Derived.Laws.OwnMore
namespace Go.Proofs.Ybulkboaa.BBreach
open Go.RowKit MapLaw CBase BPlain
set_option linter.unusedVariables false
set_option maxRecDepth 100000

/-- f, but v at i -/
def up {α : Type} (f : Nat → α) (i : Nat) (v : α) : Nat → α := fun x => if x = i then v else f x
@[simp] theorem up_same {α : Type} (f : Nat → α) (i : Nat) (v : α) : up f i v i = v := by simp [up]
theorem up_other {α : Type} (f : Nat → α) {i x : Nat} (v : α) (h : x ≠ i) : up f i v x = f x := by simp [up, h]

/-- block b holds the n cells f 0 .. f (n-1) -/
def Tab (W : World) (b t n : Nat) (f : Nat → Value) : Prop := ∃ cs, Blk W b cs t ∧ cs.size = n ∧ ∀ i, i < n → cs[i]? = some (f i)
section
variable {W W' : World} {b t n : Nat} {f : Nat → Value}
theorem Tab.cell (h : Tab W b t n f) {i : Nat} (hi : i < n) : W.cell? ⟨b, i, none⟩ = some (f i) := by obtain ⟨cs, h1, _, h3⟩ := h; exact h1.cell i _ (h3 i hi)
theorem Tab.frozen (h : Tab W b t n f) (i : Nat) : W.frozen? ⟨b, i, none⟩ = false := by obtain ⟨cs, h1, _, _⟩ := h; exact h1.frozen i
theorem Tab.lt (h : Tab W b t n f) : b < W.heap.size := by obtain ⟨cs, h1, _, _⟩ := h; exact h1.lt
theorem Tab.same (h : Tab W b t n f) (hb : W'.heap[b]? = W.heap[b]?) : Tab W' b t n f := by obtain ⟨cs, h1, h2⟩ := h; exact ⟨cs, hb.trans h1, h2⟩
theorem Tab.set (h : Tab W b t n f) (i : Nat) (v : Value) : Tab (W.setCell ⟨b, i, none⟩ v) b t n (up f i v) := by
  obtain ⟨cs, h1, h2, h3⟩ := h
  refine ⟨_, h1.set i v, by simpa using h2, fun j hj => ?_⟩
  by_cases e : j = i
  · subst e; rw [Array.getElem?_setIfInBounds_self_of_lt (by omega), up_same]
  · rw [Array.getElem?_setIfInBounds_ne (by omega), up_other _ _ e]; exact h3 j hj
theorem Tab.congr (h : Tab W b t n f) {g : Nat → Value} (e : ∀ i, i < n → f i = g i) : Tab W b t n g := by
  obtain ⟨cs, h1, h2, h3⟩ := h
  exact ⟨cs, h1, h2, fun i hi => by rw [h3 i hi, e i hi]⟩
end

/-- make([]T, K), T of one cell -/
theorem make_tab (w : World) (t e : TypeId) (z : Value) (by_ K : Nat) (ht : Yba.prog.underlying t = some (.slice e)) (hi : (Yba.prog.info? e).map (fun i => (i.zero, i.size, i.bytes)) = some (some z, 1, by_)) (hz : z.cells = #[z]) (hK : K ≤ 1024) (hb : by_ ≤ 1024) :
    ∃ w', (Instr.makeSlice t (.int .i64 (K : Int)) (.int .i64 (K : Int))).run Yba.prog w = .ok (.slice (some ⟨w.heap.size, 0, none⟩) K K) w' ∧ Tab w' w.heap.size e K (fun _ => z) ∧ Below w.heap.size w w' ∧ w'.heap.size = w.heap.size + 1 := by
  obtain ⟨i, h1, h2⟩ := Option.map_eq_some_iff.1 hi
  simp only [Prod.mk.injEq] at h2
  have hmul : i.bytes * K ≤ 1024 * 1024 := Nat.mul_le_mul (by rw [h2.2.2]; exact hb) hK
  have hr := run_make (P := Yba.prog) w t e i z ht h1 h2.1 .i64 .i64 K K (by omega) (Int.le_refl _) (by
    have h : ((i.bytes * K : Nat) : Int) ≤ 281474976710656 := by omega
    rwa [Int.natCast_mul] at h) (by omega)
  simp only [Int.toNat_natCast] at hr
  refine ⟨_, hr, ⟨_, Blk.new _ _ _, ?_, ?_⟩, (Below.refl _ _).alloc (Nat.le_refl _) _, by simp⟩
  · simp [size_madeCells, h2.2.1]
  · intro j hj
    rw [hz, h2.2.1, Nat.mul_one, ← Array.getElem?_toList, toList_madeCells_one, List.getElem?_replicate, if_pos hj]

/-- the edges that the numbers stand for -/
def edgesOf (K : Nat) (zs : List Nat) : List (Nat × Nat) := zs.map fun z => (z / 256 % K, z % 256 % K)

/-- where the search stands: Q the queue, h how many of it are followed, done the edges looked at for the next -/
structure BInv (E : List (Nat × Nat)) (aim : Nat → Bool) (K start : Nat) (Q : List Nat) (h : Nat) : Prop where
  nodup : Q.Nodup
  lt : ∀ u ∈ Q, u < K
  first : start ∈ Q
  met : ∀ u ∈ Q, Met E (fun s => s = start) u
  done : ∀ u ∈ Q.take h, ∀ d, (u, d) ∈ E → aim d = false ∧ d ∈ Q
  le : h ≤ Q.length
theorem BInv.len {E : List (Nat × Nat)} {aim : Nat → Bool} {K start h : Nat} {Q : List Nat} (I : BInv E aim K start Q h) : Q.length ≤ K := by
  have hp : Q.length ≤ (List.range K).length := I.nodup.length_le_of_subset fun u hu => List.mem_range.2 (I.lt u hu)
  simpa using hp

/-- where the search stands amid the edges of the node u = Q[h]: the first j edges are looked at -/
structure BIn (E : List (Nat × Nat)) (aim : Nat → Bool) (K start : Nat) (Q : List Nat) (h u j : Nat) : Prop where
  inv : BInv E aim K start Q h
  at_ : Q[h]? = some u
  seen : ∀ d, (u, d) ∈ E.take j → aim d = false ∧ d ∈ Q

theorem BInv.start (E : List (Nat × Nat)) (aim : Nat → Bool) {K start : Nat} (hs : start < K) : BInv E aim K start [start] 0 :=
  ⟨by simp, fun u hu => by simp at hu; omega, by simp, fun u hu => by simp at hu; subst hu; exact ⟨_, rfl, .refl _⟩, fun u hu => by simp at hu, by simp⟩
theorem BIn.start {E : List (Nat × Nat)} {aim : Nat → Bool} {K start h u : Nat} {Q : List Nat} (I : BInv E aim K start Q h) (hu : Q[h]? = some u) : BIn E aim K start Q h u 0 := ⟨I, hu, fun d hd => by simp at hd⟩
theorem BIn.fin {E : List (Nat × Nat)} {aim : Nat → Bool} {K start h u : Nat} {Q : List Nat} (I : BIn E aim K start Q h u E.length) : BInv E aim K start Q (h + 1) := by
  have hl := (List.getElem?_eq_some_iff.1 I.at_).1
  refine ⟨I.inv.nodup, I.inv.lt, I.inv.first, I.inv.met, fun x hx d hd => ?_, by omega⟩
  rw [List.take_add_one, I.at_] at hx
  simp at hx
  rcases hx with hx | rfl
  · exact I.inv.done x hx d hd
  · exact I.seen d (by rw [List.take_length]; exact hd)
/-- an edge of another node -/
theorem BIn.skip {E : List (Nat × Nat)} {aim : Nat → Bool} {K start h u j s d : Nat} {Q : List Nat} (I : BIn E aim K start Q h u j) (he : E[j]? = some (s, d)) (hs : s ≠ u) : BIn E aim K start Q h u (j + 1) := by
  refine ⟨I.inv, I.at_, fun d' hd' => ?_⟩
  rw [List.take_add_one, he] at hd'
  simp at hd'
  rcases hd' with hd' | ⟨e, _⟩
  · exact I.seen d' hd'
  · exact absurd e.symm hs
/-- an edge to a node that was met -/
theorem BIn.old {E : List (Nat × Nat)} {aim : Nat → Bool} {K start h u j d : Nat} {Q : List Nat} (I : BIn E aim K start Q h u j) (he : E[j]? = some (u, d)) (ha : aim d = false) (hd : d ∈ Q) : BIn E aim K start Q h u (j + 1) := by
  refine ⟨I.inv, I.at_, fun d' hd' => ?_⟩
  rw [List.take_add_one, he] at hd'
  simp at hd'
  rcases hd' with hd' | rfl
  · exact I.seen d' hd'
  · exact ⟨ha, hd⟩
/-- an edge to a new node -/
theorem BIn.new {E : List (Nat × Nat)} {aim : Nat → Bool} {K start h u j d : Nat} {Q : List Nat} (I : BIn E aim K start Q h u j) (he : E[j]? = some (u, d)) (ha : aim d = false) (hd : d ∉ Q) (hk : d < K) : BIn E aim K start (Q ++ [d]) h u (j + 1) := by
  have hl := (List.getElem?_eq_some_iff.1 I.at_).1
  have hmem : (u, d) ∈ E := List.mem_of_getElem? he
  refine ⟨⟨?_, ?_, ?_, ?_, ?_, ?_⟩, ?_, ?_⟩
  · rw [List.nodup_append]
    refine ⟨I.inv.nodup, by simp, fun a h1 b h2 e => ?_⟩
    simp at h2
    subst h2 e
    exact hd h1
  · intro x hx
    rw [List.mem_append, List.mem_singleton] at hx
    rcases hx with hx | rfl
    · exact I.inv.lt x hx
    · exact hk
  · exact List.mem_append_left _ I.inv.first
  · intro x hx
    rw [List.mem_append, List.mem_singleton] at hx
    rcases hx with hx | rfl
    · exact I.inv.met x hx
    · exact (I.inv.met u (List.mem_of_getElem? I.at_)).step hmem
  · intro x hx d' hd'
    rw [List.take_append_of_le_length (by omega)] at hx
    obtain ⟨h1, h2⟩ := I.inv.done x hx d' hd'
    exact ⟨h1, List.mem_append_left _ h2⟩
  · simp; omega
  · rw [List.getElem?_append_left hl]; exact I.at_
  · intro d' hd'
    rw [List.take_add_one, he] at hd'
    simp at hd'
    rcases hd' with hd' | rfl
    · obtain ⟨h1, h2⟩ := I.seen d' hd'
      exact ⟨h1, List.mem_append_left _ h2⟩
    · exact ⟨ha, by simp⟩
/-- an edge to a node that is looked for -/
theorem BIn.hit {E : List (Nat × Nat)} {aim : Nat → Bool} {K start h u j d : Nat} {Q : List Nat} (I : BIn E aim K start Q h u j) (he : E[j]? = some (u, d)) (ha : aim d = true) : Hit E (fun x => aim x = true) (fun s => s = start) :=
  hit_of_met (I.inv.met u (List.mem_of_getElem? I.at_)) (List.mem_of_getElem? he) ha
/-- the queue is followed to its end -/
theorem BInv.none {E : List (Nat × Nat)} {aim : Nat → Bool} {K start : Nat} {Q : List Nat} (I : BInv E aim K start Q Q.length) : ¬ Hit E (fun x => aim x = true) (fun s => s = start) := by
  refine no_hit (C := fun u => u ∈ Q) (fun u hu => by rw [hu]; exact I.first) fun u d hu hd => ?_
  obtain ⟨h1, h2⟩ := I.done u (by rw [List.take_length]; exact hu) d hd
  exact ⟨by simp [h1], h2⟩
end Go.Proofs.Ybulkboaa.BBreach
