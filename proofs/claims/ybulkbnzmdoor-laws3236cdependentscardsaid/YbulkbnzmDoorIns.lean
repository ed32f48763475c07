import Derived.Test.YbulkbnzmDoorDep1
namespace Go.Proofs.YbulkbnzmDoor.Ins
open Go.RowKit MapLaw Base Net Net2 Net3 Net4 Plain Mem Dep1
set_option linter.unusedVariables false
set_option maxRecDepth 100000

theorem Row.at' {W W' : World} {sb B : Nat} {o : Option Value} {l : List Nat} (h : Row W sb B o l) (hb : ∀ v b, o = some v → v.ownBlock = some b → B ≤ b → b < W.heap.size → W'.heap[b]? = W.heap[b]?) : Row W' sb B o l := by
  refine ⟨⟨h.1.1, ?_⟩, h.2⟩
  rcases h.1.2 with h1 | ⟨g, cap, cur, h1, h2, h3, h4⟩
  · exact .inl h1
  · refine .inr ⟨g, cap, cur, h1, h2, (hb (.slice (some ⟨g, 0, none⟩) l.length cap) g ?_ rfl h2 (block_lt h3)).trans h3, h4⟩
    cases o with
    | none => cases h1
    | some v => simp at h1; rw [h1]

theorem heap_setBlock (W : World) (r b : Nat) (o : Obj) (h : b ≠ r) : (ChangeMaps.setBlock W r o).heap[b]? = W.heap[b]? := by
  simp only [ChangeMaps.setBlock]; rw [Array.getElem?_setIfInBounds_ne (by omega)]
theorem heap_setBlock_same (W : World) (r : Nat) (o : Obj) (h : r < W.heap.size) : (ChangeMaps.setBlock W r o).heap[r]? = some o := by
  simp only [ChangeMaps.setBlock]; rw [Array.getElem?_setIfInBounds_self_of_lt h]
theorem size_setBlock (W : World) (r : Nat) (o : Obj) : (ChangeMaps.setBlock W r o).heap.size = W.heap.size := by simp [ChangeMaps.setBlock]

section
variable {W : World} {a4 a6 : Addr} {eb sb qb r B : Nat} {m : Nat → Nat} {pl : Nat → Int} {L : Nat → List Nat}

/-- the state where only the map, and blocks from B on, have changed -/
theorem St.map {W W' : World} (h : St W a4 a6 eb sb qb r B m pl L) (o : Ord a4 a6 eb sb qb r B) {L' : Nat → List Nat} (hb : ∀ b, b < B → b ≠ r → W'.heap[b]? = W.heap[b]?) (hs : W.heap.size ≤ W'.heap.size)
    (hm : ∃ ps c, W'.heap[r]? = some (.map (ents (KK a4 a6) ps).toArray c) ∧ Plain.Good ps c ∧ Mem.Rows W' sb B ps L') : St W' a4 a6 eb sb qb r B m pl L' := by
  have e1 := o.es; have e2 := o.sr; have e3 := o.rq; have e4 := o.qB; have e5 := h.bB; have e6 := o.b3; have l4 := o.l4; have l6 := o.l6
  obtain ⟨c1, g1, g2⟩ := h.rib
  obtain ⟨c2, g3, g4⟩ := h.rs
  obtain ⟨cs4, t4, h4⟩ := h.gl.h4
  obtain ⟨cs6, t6, h6⟩ := h.gl.h6
  exact ⟨⟨(World.cell?_of_block (hb 0 (by omega) (by omega))).trans h.gl.c0, (World.cell?_of_block (hb 1 (by omega) (by omega))).trans h.gl.c1, (World.cell?_of_block (hb 2 (by omega) (by omega))).trans h.gl.c2,
    ⟨cs4, t4, (hb _ (by omega) (by omega)).trans h4⟩, ⟨cs6, t6, (hb _ (by omega) (by omega)).trans h6⟩, h.gl.ne⟩, (hb _ (by omega) (by omega)).trans h.es, ⟨c1, (hb _ (by omega) (by omega)).trans g1, g2⟩, ⟨c2, (hb _ (by omega) (by omega)).trans g3, g4⟩, hm, Nat.le_trans h.bB hs⟩

/-- the map behind 'm[g] = append(m[g], &rs[i])' -/
theorem ins_mem {W5 w1 : World} {ps : List Ent} {c : Nat} (h : St W a4 a6 eb sb qb r B m pl L) (o : Ord a4 a6 eb sb qb r B)
    (hmp : W.heap[r]? = some (.map (ents (KK a4 a6) ps).toArray c)) (hgd : Plain.Good ps c) (hrw : Mem.Rows W sb B ps L) {g i : Nat} (hg : g < 3) {oa : Option Addr} {cap : Nat}
    (hv : (lookE g ps).getD (.slice none 0 0) = .slice oa (L g).length cap)
    (h5 : Below W.heap.size W W5) {gb cap' : Nat}
    (hown : w1.ownsRow B 100 1 (.slice (some ⟨gb, 0, none⟩) ((L g).length + 1) cap') ((L g).length + 1) ((L g).map (rp sb) ++ [rp sb i]))
    (hgrow : (ChangeMaps.setBlock W5 r (.map (ents (KK a4 a6) (entered g (.slice none 0 0) c ps)).toArray (clockAfter g c ps))).grownBy w1 (Value.slice oa (L g).length cap).ownBlock)
    (hat : (Value.slice oa (L g).length cap).ownBlock = some gb ∨ gb = W5.heap.size) :
    St (ChangeMaps.setBlock w1 r (.map (ents (KK a4 a6) (upd g (.slice (some ⟨gb, 0, none⟩) ((L g).length + 1) cap') c ps)).toArray (clockAfter g c ps))) a4 a6 eb sb qb r B m pl (up L g (L g ++ [i])) ∧
    Frm B sb r W (ChangeMaps.setBlock w1 r (.map (ents (KK a4 a6) (upd g (.slice (some ⟨gb, 0, none⟩) ((L g).length + 1) cap') c ps)).toArray (clockAfter g c ps))) := by
  have e1 := o.es; have e2 := o.sr; have e3 := o.rq; have e4 := o.qB; have e5 := h.bB
  have s5 := h5.size
  have s6 := hgrow.size
  rw [size_setBlock] at s6
  have hrow := (hrw.1 g hg).1
  rw [hv] at hrow
  -- the old row's block is not below B
  have hob : ∀ b, (Value.slice oa (L g).length cap).ownBlock = some b → B ≤ b := fun b hb => by
    rcases hrow.2 with ⟨q1, _⟩ | ⟨g', cap2, cur, q1, q2, _⟩
    · rw [q1] at hb; cases hb
    · rw [q1] at hb; simp [Value.ownBlock] at hb; omega
  have keep : ∀ b, b ≠ r → b < W.heap.size → some b ≠ (Value.slice oa (L g).length cap).ownBlock → (ChangeMaps.setBlock w1 r (.map (ents (KK a4 a6) (upd g (.slice (some ⟨gb, 0, none⟩) ((L g).length + 1) cap') c ps)).toArray (clockAfter g c ps))).heap[b]? = W.heap[b]? := fun b h1 h2 h3 => by
    rw [heap_setBlock _ _ _ _ h1, hgrow.block b (by rw [size_setBlock]; omega) h3, heap_setBlock _ _ _ _ h1]
    exact h5.block b h2
  have keepB : ∀ b, b < B → b ≠ r → (ChangeMaps.setBlock w1 r (.map (ents (KK a4 a6) (upd g (.slice (some ⟨gb, 0, none⟩) ((L g).length + 1) cap') c ps)).toArray (clockAfter g c ps))).heap[b]? = W.heap[b]? := fun b h1 h2 =>
    keep b h2 (by omega) (fun e => by have := hob b e.symm; omega)
  refine ⟨St.map h o keepB (by rw [size_setBlock]; omega) ⟨_, _, heap_setBlock_same _ _ _ (by omega), hgd.upd hg _, ?_, ?_⟩, ?_, ?_, ?_, ?_, ?_⟩
  · intro g2 hg2
    rw [lookE_upd]
    by_cases e : g2 = g
    · subst e
      rw [if_pos rfl, up_same]
      refine ⟨⟨by simp, ?_⟩, by simp⟩
      have hgb : B ≤ gb := by
        rcases hat with q | q
        · exact hob gb q
        · omega
      rcases hown.2 with ⟨q1, _⟩ | ⟨b, cap2, cur, q1, q2, q3, q4, q5, q6, q7⟩
      · cases q1
      · refine .inr ⟨b, cap2, cur, ?_, q2, ?_, ?_, q5, q6, ?_⟩
        · simpa using q1
        · rw [heap_setBlock _ _ _ _ (by omega)]; exact q3
        · simpa using q4
        · simpa using q7
    · rw [if_neg e, up_other _ _ e]
      refine Row.at' (hrw.1 g2 hg2) fun v b hv2 hb2 hB hlt => keep b (by omega) hlt fun e' => ?_
      cases hl : lookE g ps with
      | none =>
        rw [hl] at hv
        rw [← hv] at e'
        cases e'
      | some v0 =>
        rw [hl] at hv
        simp at hv
        rw [← hv, ← hb2] at e'
        exact hrw.2 g2 g v v0 e hv2 hl e'
  · -- no block twice
    have key : ∀ g2 v2, g2 ≠ g → lookE g2 ps = some v2 → v2.ownBlock ≠ some gb := fun g2 v2 e hv2 hc => by
      have hg2 : g2 < 3 := by
        have := (lookE_mem g2 ps).1 (by simp [hv2])
        obtain ⟨p, hp, rfl⟩ := List.mem_map.1 this
        exact hgd.lt p hp
      rcases hat with q | q
      · cases hl : lookE g ps with
        | none =>
          rw [hl] at hv
          rw [← hv] at q
          cases q
        | some v0 =>
          rw [hl] at hv
          simp at hv
          rw [← hv, ← hc] at q
          exact hrw.2 g2 g v2 v0 e hv2 hl q.symm
      · have hr2 := (hrw.1 g2 hg2).1
        rw [hv2] at hr2
        rcases hr2.2 with ⟨q1, _⟩ | ⟨b, cap2, cur, q1, q2, q3, _⟩
        · simp at q1; rw [q1] at hc; cases hc
        · simp at q1
          rw [q1] at hc
          simp [Value.ownBlock] at hc
          have := block_lt q3
          omega
    intro g1 g2 v1 v2 ne h1 h2
    rw [lookE_upd] at h1 h2
    by_cases ea : g1 = g
    · rw [if_pos ea] at h1
      have eb' : g2 ≠ g := fun e' => ne (ea.trans e'.symm)
      rw [if_neg eb'] at h2
      cases h1
      exact fun e' => key g2 v2 eb' h2 e'.symm
    · rw [if_neg ea] at h1
      by_cases eb' : g2 = g
      · rw [if_pos eb'] at h2
        cases h2
        exact key g1 v1 ea h1
      · rw [if_neg eb'] at h2
        exact hrw.2 g1 g2 v1 v2 ne h1 h2
  · exact hgrow.os.trans h5.os
  · exact hgrow.tape.trans h5.tape
  · exact hgrow.output.trans h5.output
  · rw [size_setBlock]; omega
  · exact fun b h1 _ h3 => keepB b h1 h3
end
end Go.Proofs.YbulkbnzmDoor.Ins
