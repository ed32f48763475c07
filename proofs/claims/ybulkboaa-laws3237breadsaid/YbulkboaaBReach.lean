import Derived.Test.YbulkboaaBFollow
import Derived.Lib.SliceRun
import Derived.Deep.LoopGhost
namespace Go.Proofs.Ybulkboaa.BReach
open Go.RowKit MapLaw CBase BPlain BBreach BMem BLink BFollow
set_option linter.unusedVariables false
set_option maxRecDepth 100000

/-- where the search stands: what was seen, the stack -/
structure DInv (E : List (Nat × Nat)) (aim seen : Nat → Bool) (src : Nat → Prop) (S : List Nat) : Prop where
  met : ∀ u, seen u = true → BPlain.Met E src u
  stk : ∀ u ∈ S, seen u = true
  done : ∀ u, seen u = true → u ∈ S ∨ ∀ d, (u, d) ∈ E → aim d = false ∧ seen d = true
  all : ∀ u, src u → seen u = true

theorem DInv.start {E : List (Nat × Nat)} {aim seen : Nat → Bool} {A S : List Nat} {N : Nat} {r : (Nat → Bool) × List Nat × Bool} {src : Nat → Prop} (hsrc : ∀ u, src u ↔ (u ∈ S ∨ u ∈ A)) (hs : ∀ u, seen u = true ↔ u ∈ S) (h : Fol N aim A seen S r) (hf : r.2.2 = false) : DInv E aim r.1 src r.2.1 := by
  have hm : ∀ u, r.1 u = true → u ∈ r.2.1 ∧ src u := fun u hu => by
    rcases h.new u hu with h1 | h1
    · exact ⟨h.keep u ((hs u).1 h1), (hsrc u).2 (.inl ((hs u).1 h1))⟩
    · exact ⟨h1.1, (hsrc u).2 (.inr h1.2)⟩
  refine ⟨fun u hu => ⟨u, (hm u hu).2, .refl _⟩, fun u hu => ?_, fun u hu => .inl (hm u hu).1, fun u hu => ?_⟩
  · rcases h.sub u hu with h1 | h1
    · exact h.old u ((hs u).2 h1)
    · exact h1.1
  · rcases (hsrc u).1 hu with h1 | h1
    · exact h.old u ((hs u).2 h1)
    · exact (h.none hf u h1).2
theorem DInv.step {E : List (Nat × Nat)} {aim seen : Nat → Bool} {S : List Nat} {N u : Nat} {r : (Nat → Bool) × List Nat × Bool} {src : Nat → Prop} (I : DInv E aim seen src (S ++ [u])) (h : Fol N aim (outs E u) seen S r) (hf : r.2.2 = false) : DInv E aim r.1 src r.2.1 := by
  have hu : seen u = true := I.stk u (by simp)
  refine ⟨fun x hx => ?_, fun x hx => ?_, fun x hx => ?_, fun x hx => h.old x (I.all x hx)⟩
  · rcases h.new x hx with h1 | h1
    · exact I.met x h1
    · exact (I.met u hu).step (mem_outs.1 h1.2)
  · rcases h.sub x hx with h1 | h1
    · exact h.old x (I.stk x (by simp [h1]))
    · exact h1.1
  · rcases h.new x hx with h1 | h1
    · rcases I.done x h1 with h2 | h2
      · rw [List.mem_append, List.mem_singleton] at h2
        rcases h2 with h2 | rfl
        · exact .inl (h.keep x h2)
        · exact .inr fun d hd => h.none hf d (mem_outs.2 hd)
      · exact .inr fun d hd => ⟨(h2 d hd).1, h.old d (h2 d hd).2⟩
    · exact .inl h1.1
theorem DInv.hit {E : List (Nat × Nat)} {aim seen : Nat → Bool} {S : List Nat} {N u : Nat} {r : (Nat → Bool) × List Nat × Bool} {src : Nat → Prop} (I : DInv E aim seen src (S ++ [u])) (h : Fol N aim (outs E u) seen S r) (hf : r.2.2 = true) : Hit E (fun x => aim x = true) src := by
  obtain ⟨v, h1, h2⟩ := h.hit hf
  exact hit_of_met (I.met u (I.stk u (by simp))) (mem_outs.1 h1) h2
theorem DInv.none {E : List (Nat × Nat)} {aim seen : Nat → Bool} {src : Nat → Prop} (I : DInv E aim seen src []) : ¬ Hit E (fun x => aim x = true) src := by
  refine no_hit (C := fun u => seen u = true) I.all fun u d hu hd => ?_
  rcases I.done u hu with h1 | h1
  · simp at h1
  · exact ⟨by simp [(h1 d hd).1], (h1 d hd).2⟩

theorem outs_len (E : List (Nat × Nat)) (u : Nat) : (outs E u).length ≤ E.length := by
  unfold outs
  rw [List.length_map]
  exact List.length_filter_le _ _

theorem setCells_block (b : Nat) (vs : List Value) (o : Nat) (w : World) : (∀ k, k ≠ b → (w.setCells b o vs).heap[k]? = w.heap[k]?) ∧ (w.setCells b o vs).heap.size = w.heap.size ∧ (w.setCells b o vs).os = w.os ∧ (w.setCells b o vs).tape = w.tape ∧ (w.setCells b o vs).output = w.output := by
  induction vs generalizing o w with
  | nil => exact ⟨fun _ _ => rfl, rfl, rfl, rfl, rfl⟩
  | cons v r ih =>
    obtain ⟨h1, h2, h3, h4, h5⟩ := ih (o + 1) (w.setCell ⟨b, o, none⟩ v)
    refine ⟨fun k hk => (h1 k hk).trans (Below.heap_setCell _ _ _ _ hk), h2.trans (by simp), h3, h4, h5⟩

/-- clear(stack) -/
theorem clear_run {W : World} {F : Nat → Prop} {rows : Rid → Value} {vals : Rid → List Value} (h : Sep W F rows vals) (r : Rid) (hp : ∀ x ∈ vals r, ∃ p, x = .pointer p) :
    ∃ w', (∀ ty, (Builtin.clear_ #[37] ty #[rows r]).run Yba.prog W = .ok (.tuple #[]) w') ∧ Sep w' F (upr rows r (.slice none 0 0)) (upr vals r []) ∧ Still F W w' := by
  have hnil : ∀ w' : World, w'.ownsRow 0 40 1 (.slice none 0 0) ([] : List Value).length [] := fun w' => ⟨rfl, .inl ⟨rfl, rfl⟩⟩
  rcases (h.own r).2 with ⟨h1, h2⟩ | ⟨g, cap, cur, h1, h2, h3, h4, h5, h6, h7⟩
  · refine ⟨W, fun ty => ?_, (h.turn (W' := W) r (hnil W) (Nat.le_refl _) (fun _ _ _ => rfl) (by simp [Value.ownBlock])).1, Still.refl _ _⟩
    rw [h1]
    simp [Builtin.clear_, run_underlying Yba.underlying37]
  · by_cases hn : 0 < (vals r).length
    · have hrow := h.own r
      rw [h1] at hrow
      obtain ⟨k1, k2, k3, k4, k5⟩ := setCells_block g (List.replicate (vals r).length (.pointer none)) 0 W
      have hob : (rows r).ownBlock = some g := by rw [h1]; rfl
      obtain ⟨q1, q2⟩ := h.turn (W' := W.setCells g 0 (List.replicate (vals r).length (.pointer none))) r (hnil _) (by rw [k2]; exact Nat.le_refl _) (fun b _ hb => k1 b fun e => hb (by rw [hob, e])) (by simp [Value.ownBlock])
      refine ⟨_, fun ty => ?_, q1, k3, k4, k5, by rw [k2]; exact Nat.le_refl _, q2⟩
      rw [h1]
      refine Lib.run_clear_slice W 37 40 ty (.pointer none) Yba.underlying37 (fun w => by kernel_rfl) rfl rfl g 0 _ cap hn (fun j hj => ?_) (fun j hj => ?_)
      · rw [Nat.zero_add, hrow.cellAt j (by omega), List.getElem?_eq_getElem hj]; rfl
      · rw [Nat.zero_add]; exact hrow.frozenAt j
    · refine ⟨W, fun ty => ?_, (h.turn (W' := W) r (hnil W) (Nat.le_refl _) (fun _ _ _ => rfl) (by simp [Value.ownBlock])).1, Still.refl _ _⟩
      have h0 : (vals r).length = 0 := by omega
      rw [h1, h0]
      simp [Builtin.clear_, run_underlying Yba.underlying37]
end Go.Proofs.Ybulkboaa.BReach
