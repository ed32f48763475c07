import Derived.Test.YbulkbnzmDoorDep2
import Derived.Laws.OwnMore
namespace Go.Proofs.YbulkbnzmDoor.Rem
open Go.RowKit MapLaw Base Net Net2 Net3 Net4 Plain Mem Dep1 Ins
set_option linter.unusedVariables false
set_option maxRecDepth 100000

section
variable {W : World} {a4 a6 : Addr} {eb sb qb r B : Nat} {m : Nat → Nat} {pl : Nat → Int} {L : Nat → List Nat}

/-- a row without its last element -/
theorem own_short {w : World} {base : Nat} {b n cap : Nat} {xs : List Value} (h : w.ownsRow base 100 1 (.slice (some ⟨b, 0, none⟩) (n + 1) cap) (n + 1) xs) : w.ownsRow base 100 1 (.slice (some ⟨b, 0, none⟩) n cap) n xs.dropLast := by
  obtain ⟨h1, h2⟩ := h
  refine ⟨by rw [List.length_dropLast, h1]; omega, ?_⟩
  rcases h2 with ⟨q, _⟩ | ⟨g, cap2, cur, q1, q2, q3, q4, q5, q6, q7⟩
  · cases q
  · refine .inr ⟨g, cap2, cur, ?_, q2, q3, by omega, q5, q6, ?_⟩
    · simp only [Value.slice.injEq] at q1 ⊢; exact ⟨q1.1, trivial, q1.2.2⟩
    · rw [← q7, List.dropLast_eq_take, List.take_take, List.length_take]
      congr 1
      have hs : cur.toList.length = cap2 * 1 := by simpa using q6
      rw [hs]
      omega

/-- the row behind the removal: the last in place p, nil at the end, one shorter -/
theorem own_removed {w : World} {base b n cap p : Nat} {l : List Nat} (hl : l.length = n + 1) (hp : p < n + 1) (h : w.ownsRow base 100 1 (.slice (some ⟨b, 0, none⟩) (n + 1) cap) (n + 1) (((l.map (rp sb)).set p (rp sb (l.getLastD 0))).set n (.pointer none))) :
    w.ownsRow base 100 1 (.slice (some ⟨b, 0, none⟩) n cap) n ((dropAt l p).map (rp sb)) := by
  have h1 := own_short h
  have e : (((l.map (rp sb)).set p (rp sb (l.getLastD 0))).set n (.pointer none)).dropLast = (dropAt l p).map (rp sb) := by
    unfold dropAt
    apply List.ext_getElem?
    intro j
    rw [List.getElem?_dropLast, List.getElem?_map, List.getElem?_dropLast]
    simp only [List.length_set, List.length_map, hl]
    split
    · rw [List.getElem?_set_ne (by omega), List.getElem?_set, List.getElem?_set]
      simp only [List.length_map, hl]
      split
      · simp
      · simp
    · rfl
  rwa [e] at h1

/-- the state behind the removal, the map being told: v' the shortened list, or none where it is empty -/
theorem rem_mem {W5 : World} {ps ps' : List Ent} {c : Nat} (h : St W a4 a6 eb sb qb r B m pl L) (o : Ord a4 a6 eb sb qb r B)
    (hgd : Plain.Good ps c) (hrw : Mem.Rows W sb B ps L) {g n b cap p : Nat} (hg : g < 3) (hv : lookE g ps = some (.slice (some ⟨b, 0, none⟩) (n + 1) cap)) (hl : (L g).length = n + 1)
    (h5 : ∀ b', b' ≠ b → b' ≠ sb → W5.heap[b']? = W.heap[b']?) (hs5 : W5.heap.size = W.heap.size) (ho : W5.os = W.os) (ht : W5.tape = W.tape) (hou : W5.output = W.output)
    {pl5 : Nat → Int} (hrs : ∃ cs, Blk W5 sb cs 55 ∧ Res cs eb m pl5)
    (hown : W5.ownsRow B 100 1 (.slice (some ⟨b, 0, none⟩) n cap) n ((dropAt (L g) p).map (rp sb)))
    (hgd' : Plain.Good ps' c) (hlk : ∀ g', lookE g' ps' = if g' = g then (if n = 0 then none else some (.slice (some ⟨b, 0, none⟩) n cap)) else lookE g' ps) :
    St (ChangeMaps.setBlock W5 r (.map (ents (KK a4 a6) ps').toArray c)) a4 a6 eb sb qb r B m pl5 (up L g (dropAt (L g) p)) ∧
    Frm B sb r W (ChangeMaps.setBlock W5 r (.map (ents (KK a4 a6) ps').toArray c)) := by
  have e1 := o.es; have e2 := o.sr; have e3 := o.rq; have e4 := o.qB; have e5 := h.bB; have e6 := o.b3; have l4 := o.l4; have l6 := o.l6
  have hrow := (hrw.1 g hg).1
  rw [hv, hl] at hrow
  have hB : B ≤ b := by
    rcases hrow.2 with ⟨q, _⟩ | ⟨b2, cap2, cur, q1, q2, _⟩
    · cases q
    · simp at q1; omega
  have keep : ∀ b', b' ≠ r → b' ≠ b → b' ≠ sb → (ChangeMaps.setBlock W5 r (.map (ents (KK a4 a6) ps').toArray c)).heap[b']? = W.heap[b']? := fun b' h1 h2 h3 => by
    rw [heap_setBlock _ _ _ _ h1]; exact h5 b' h2 h3
  obtain ⟨c1, g1, g2⟩ := h.rib
  obtain ⟨cs5, g3, g4⟩ := hrs
  obtain ⟨cs4, t4, h4⟩ := h.gl.h4
  obtain ⟨cs6, t6, h6⟩ := h.gl.h6
  have hdl : (dropAt (L g) p).length = n := by rw [dropAt_length, hl]; omega
  refine ⟨⟨⟨(World.cell?_of_block (keep 0 (by omega) (by omega) (by omega))).trans h.gl.c0, (World.cell?_of_block (keep 1 (by omega) (by omega) (by omega))).trans h.gl.c1, (World.cell?_of_block (keep 2 (by omega) (by omega) (by omega))).trans h.gl.c2,
    ⟨cs4, t4, (keep _ (by omega) (by omega) (by omega)).trans h4⟩, ⟨cs6, t6, (keep _ (by omega) (by omega) (by omega)).trans h6⟩, h.gl.ne⟩, (keep _ (by omega) (by omega) (by omega)).trans h.es, ⟨c1, (keep _ (by omega) (by omega) (by omega)).trans g1, g2⟩,
    ⟨cs5, (heap_setBlock _ _ _ _ (by omega)).trans g3, g4⟩, ⟨ps', c, heap_setBlock_same _ _ _ (by omega), hgd', ?_, ?_⟩, by rw [size_setBlock]; omega⟩, ho, ht, hou, by rw [size_setBlock]; omega, fun b' h1 h2 h3 => keep b' h3 (by omega) h2⟩
  · intro g2 hg2
    rw [hlk]
    by_cases e : g2 = g
    · subst e
      rw [if_pos rfl, up_same]
      by_cases hn : n = 0
      · rw [if_pos hn]
        have hd0 : dropAt (L g2) p = [] := List.eq_nil_of_length_eq_zero (by omega)
        rw [hd0]
        exact ⟨⟨rfl, .inl ⟨rfl, rfl⟩⟩, by simp⟩
      · rw [if_neg hn]
        refine ⟨⟨by simp, ?_⟩, by simp [hdl]; omega⟩
        rw [hdl]
        rcases hown.2 with ⟨q, _⟩ | ⟨b2, cap2, cur, q1, q2, q3, q4⟩
        · cases q
        · refine .inr ⟨b2, cap2, cur, q1, q2, ?_, q4⟩
          rw [heap_setBlock _ _ _ _ (by omega)]; exact q3
    · rw [if_neg e, up_other _ _ e]
      refine Row.at' (hrw.1 g2 hg2) fun v b2 hv2 hb2 hB2 hlt => keep b2 (by omega) (fun e' => ?_) (by omega)
      refine hrw.2 g2 g v _ e hv2 hv ?_
      rw [hb2, e']
      rfl
  · have key : ∀ g', lookE g' ps' = none ∨ (∃ v v', lookE g' ps' = some v ∧ lookE g' ps = some v' ∧ v.ownBlock = v'.ownBlock) := fun g' => by
      rw [hlk]
      by_cases e : g' = g
      · subst e
        rw [if_pos rfl]
        by_cases hn : n = 0
        · rw [if_pos hn]; exact .inl rfl
        · rw [if_neg hn]; exact .inr ⟨_, _, rfl, hv, rfl⟩
      · rw [if_neg e]
        cases hx : lookE g' ps with
        | none => exact .inl rfl
        | some v => exact .inr ⟨v, v, rfl, rfl, rfl⟩
    intro g1 g2 v1 v2 ne q1 q2
    rcases key g1 with k1 | ⟨u1, u1', k1, k1', k1''⟩
    · rw [k1] at q1; cases q1
    rcases key g2 with k2 | ⟨u2, u2', k2, k2', k2''⟩
    · rw [k2] at q2; cases q2
    rw [k1] at q1; rw [k2] at q2
    cases q1; cases q2
    rw [k1'', k2'']
    exact hrw.2 g1 g2 u1' u2' ne k1' k2'

theorem own_far {w : World} {base : Nat} {v : Value} {n : Nat} {xs : List Value} (h : w.ownsRow base 100 1 v n xs) {a : Addr} (ha : a.block < base) (u : Value) : (w.setCell a u).ownsRow base 100 1 v n xs := by
  refine ⟨h.1, ?_⟩
  rcases h.2 with q | ⟨g, cap, cur, q1, q2, q3, q4⟩
  · exact .inl q
  · exact .inr ⟨g, cap, cur, q1, q2, (Below.heap_setCell w a u g (by omega)).trans q3, q4⟩

/-- behind 'list[res.place], last.place = last, res.place' -/
structure Mid (W W5 : World) (eb sb B b n cap : Nat) (m : Nat → Nat) (pl5 : Nat → Int) (xs : List Value) : Prop where
  far : ∀ b', b' ≠ b → b' ≠ sb → W5.heap[b']? = W.heap[b']?
  size : W5.heap.size = W.heap.size
  os : W5.os = W.os
  tape : W5.tape = W.tape
  output : W5.output = W.output
  rs : ∃ cs, Blk W5 sb cs 55 ∧ Res cs eb m pl5
  own : W5.ownsRow B 100 1 (.slice (some ⟨b, 0, none⟩) (n + 1) cap) (n + 1) xs

theorem Mid.first {n b cap p lst : Nat} {xs : List Value} (h : St W a4 a6 eb sb qb r B m pl L) (o : Ord a4 a6 eb sb qb r B) (hB : B ≤ b) (hl : lst < 3)
    (hown : W.ownsRow B 100 1 (.slice (some ⟨b, 0, none⟩) (n + 1) cap) (n + 1) xs) (v : Value) :
    Mid W ((W.setCell ⟨b, p, none⟩ v).setCell ⟨sb, lst * 19 + 14, none⟩ (.int .i64 (p : Int))).drew eb sb B b n cap m (up pl lst (p : Int)) (xs.set p v) where
  far := fun b' h1 h2 => by
    show ((W.setCell ⟨b, p, none⟩ v).setCell ⟨sb, lst * 19 + 14, none⟩ (.int .i64 (p : Int))).heap[b']? = _
    rw [Below.heap_setCell _ _ _ _ (by simpa using h2), Below.heap_setCell _ _ _ _ (by simpa using h1)]
  size := by simp
  os := rfl
  tape := rfl
  output := rfl
  rs := by
    have e2 := o.sr; have e3 := o.rq; have e4 := o.qB
    obtain ⟨cs, hb, hR⟩ := h.rs
    exact ⟨_, ((hb.other (a := ⟨b, p, none⟩) (by simp; omega) v).set (lst * 19 + 14) _).drew, hR.place hl _⟩
  own := by
    have e2 := o.sr; have e3 := o.rq; have e4 := o.qB
    exact own_far (hown.stored p v).1 (by simp; omega) _

theorem Mid.next {W5 : World} {n b cap : Nat} {pl5 : Nat → Int} {xs : List Value} (h : Mid W W5 eb sb B b n cap m pl5 xs) (hb : sb ≠ b) (v : Value) :
    Mid W (W5.setCell ⟨b, n, none⟩ v) eb sb B b n cap m pl5 (xs.set n v) where
  far := fun b' h1 h2 => by rw [Below.heap_setCell _ _ _ _ (by simpa using h1)]; exact h.far b' h1 h2
  size := by simpa using h.size
  os := h.os
  tape := h.tape
  output := h.output
  rs := by obtain ⟨cs, q1, q2⟩ := h.rs; exact ⟨cs, q1.other (by simpa using hb) v, q2⟩
  own := (h.own.stored n v).1
theorem Mid.drew {W5 : World} {n b cap : Nat} {pl5 : Nat → Int} {xs : List Value} (h : Mid W W5 eb sb B b n cap m pl5 xs) : Mid W W5.drew eb sb B b n cap m pl5 xs :=
  ⟨h.far, h.size, h.os, h.tape, h.output, h.rs, h.own⟩

/-- the facts that the map's change wants, and what it leaves -/
theorem rem_ready {W4 W6 : World} {ps : List Ent} {c : Nat} (h : St W4 a4 a6 eb sb qb r B m pl L) (o : Ord a4 a6 eb sb qb r B) (hmp : W4.heap[r]? = some (.map (ents (KK a4 a6) ps).toArray c))
    (hgd : Plain.Good ps c) (hrw : Mem.Rows W4 sb B ps L) {g n b cap p x : Nat} (hg : g < 3) (hv : lookE g ps = some (.slice (some ⟨b, 0, none⟩) (n + 1) cap)) (hB : B ≤ b) (hl : (L g).length = n + 1) (hp : p < n + 1)
    {cx : Array Value} (hx : Blk W4 x cx 43) (hxB : B ≤ x) {pl5 : Nat → Int} (hm : Mid W4 W6 eb sb B b n cap m pl5 ((((L g).map (rp sb)).set p (rp sb ((L g).getLastD 0))).set n (.pointer none))) :
    W6.cell? ⟨qb, 164, none⟩ = some (.map (some r)) ∧ Blk W6 x cx 43 ∧
    (∀ ty, (Builtin.delete_ #[58, 43] ty #[.map (some r), .agg #[.int .u64 (Hi g), .int .u64 (Lo g), .pointer (some (Pt a4 a6 g)), .int .u8 (Bt g)]]).run Ybad.prog W6.drew = .ok (.tuple #[]) (ChangeMaps.setBlock W6.drew r (.map (ents (KK a4 a6) (del g ps)).toArray c))) ∧
    (Instr.mapUpdate 58 (.map (some r)) (.agg #[.int .u64 (Hi g), .int .u64 (Lo g), .pointer (some (Pt a4 a6 g)), .int .u8 (Bt g)]) (.slice (some ⟨b, 0, none⟩) n cap)).run Ybad.prog W6.drew = .ok () (ChangeMaps.setBlock W6.drew r (.map (ents (KK a4 a6) (upd g (.slice (some ⟨b, 0, none⟩) n cap) c ps)).toArray c)) ∧
    (n = 0 → St (ChangeMaps.setBlock W6.drew r (.map (ents (KK a4 a6) (del g ps)).toArray c)) a4 a6 eb sb qb r B m pl5 (up L g (dropAt (L g) p)) ∧ Frm B sb r W4 (ChangeMaps.setBlock W6.drew r (.map (ents (KK a4 a6) (del g ps)).toArray c))) ∧
    (n ≠ 0 → St (ChangeMaps.setBlock W6.drew r (.map (ents (KK a4 a6) (upd g (.slice (some ⟨b, 0, none⟩) n cap) c ps)).toArray c)) a4 a6 eb sb qb r B m pl5 (up L g (dropAt (L g) p)) ∧ Frm B sb r W4 (ChangeMaps.setBlock W6.drew r (.map (ents (KK a4 a6) (upd g (.slice (some ⟨b, 0, none⟩) n cap) c ps)).toArray c))) := by
  have e1 := o.es; have e2 := o.sr; have e3 := o.rq; have e4 := o.qB
  obtain ⟨cr, hcr, h164⟩ := h.rib
  have nbx : x ≠ b := by
    rintro rfl
    rcases hm.own.2 with ⟨q, _⟩ | ⟨b2, cap2, cur, q1, q2, q3, _⟩
    · cases q
    · have hrow := (hrw.1 g hg).1
      rw [hv] at hrow
      rcases hrow.2 with ⟨q, _⟩ | ⟨b3, cap3, cur3, r1, r2, r3, _⟩
      · cases q
      · simp at r1
        obtain ⟨rfl, _⟩ := r1
        unfold Blk at hx
        rw [hx] at r3
        simp at r3
  have hm6 : W6.drew.heap[r]? = some (.map (ents (KK a4 a6) ps).toArray c) := (hm.far r (by omega) (by omega)).trans hmp
  have hown := own_removed (sb := sb) hl hp hm.own
  have hck : clockAfter g c ps = c := by simp [clockAfter, hv]
  have hgu := hgd.upd hg (.slice (some ⟨b, 0, none⟩) n cap)
  rw [hck] at hgu
  have hup := run_mapUpdate (P := Ybad.prog) (W := W6.drew) Ybad.underlying58 (keys a4 a6 W6.drew) r ps c hm6 g hg hgd.lt (.slice (some ⟨b, 0, none⟩) n cap)
  rw [hck] at hup
  have hcr6 : Blk W6 qb cr 96 := (hm.far qb (by omega) (by omega)).trans hcr
  refine ⟨hcr6.cell 164 _ h164, (hm.far x nbx (by omega)).trans hx, fun ty => run_delete (P := Ybad.prog) (W := W6.drew) Ybad.underlying58 (keys a4 a6 W6.drew) r ps c hm6 g hg hgd.lt _ hv, hup, fun hn => ?_, fun hn => ?_⟩
  · exact rem_mem (W5 := W6.drew) (p := p) h o hgd hrw hg hv hl hm.far hm.size hm.os hm.tape hm.output hm.rs hown (hgd.del g) fun g' => by
      by_cases e : g' = g
      · subst e; rw [if_pos rfl, if_pos hn]; exact lookE_del_same g' ps hgd.keys
      · rw [if_neg e]; exact lookE_del_other g g' ps e
  · exact rem_mem (W5 := W6.drew) (p := p) h o hgd hrw hg hv hl hm.far hm.size hm.os hm.tape hm.output hm.rs hown hgu fun g' => by
      rw [lookE_upd, if_neg hn]
end
end Go.Proofs.YbulkbnzmDoor.Rem
