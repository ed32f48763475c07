import Derived.Test.YbulkbnzmDoorIns
import Derived.Deep.RegionLaw
namespace Go.Proofs.YbulkbnzmDoor.Dep2
open Go.RowKit MapLaw Base Net Net2 Net3 Net4 Plain Mem Dep1 Ins
set_option linter.unusedVariables false
set_option maxRecDepth 100000

section
variable {W : World} {a4 a6 : Addr} {eb sb qb r B : Nat} {m : Nat → Nat} {pl : Nat → Int} {L : Nat → List Nat}

theorem zero88 (w : World) : (zeroValue 88).run Ybad.prog w = .ok (.slice none 0 0) w := by kernel_rfl

/-- the list of prefix g, looked up -/
theorem St.look (h : St W a4 a6 eb sb qb r B m pl L) {g : Nat} (hg : g < 3) : ∃ oa cap, ((Instr.lookup 58 (.map (some r)) (.agg #[.int .u64 (Hi g), .int .u64 (Lo g), .pointer (some (Pt a4 a6 g)), .int .u8 (Bt g)]) false).run Ybad.prog W = .ok (.slice oa (L g).length cap) W) ∧
    W.ownsRow B 100 1 (.slice oa (L g).length cap) (L g).length ((L g).map (rp sb)) := by
  obtain ⟨ps, c, h1, h2, h3⟩ := h.mp
  have hr := (h3.1 g hg).1
  have hl : (Instr.lookup 58 (.map (some r)) (KK a4 a6 g) false).run Ybad.prog W = .ok ((lookE g ps).getD (.slice none 0 0)) W :=
    run_lookup Ybad.underlying58 zero88 (keys a4 a6 _) r ps c h1 g hg h2.lt
  have hv : ∃ oa cap, (lookE g ps).getD (.slice none 0 0) = .slice oa (L g).length cap := by
    rcases hr.2 with ⟨e1, e2⟩ | ⟨b, cap, cur, e1, _⟩
    · exact ⟨none, 0, by rw [e1, e2]⟩
    · exact ⟨_, cap, e1⟩
  obtain ⟨oa, cap, hv⟩ := hv
  rw [hv] at hl hr
  exact ⟨oa, cap, hl, hr⟩

theorem info100 : (Ybad.prog.info? 100).map (fun i => (i.zero, i.size, i.bytes)) = some (some (.pointer none), 1, 8) := by kernel_rfl

/-- the map's entry for 'm[g] = append(m[g], ..)' -/
theorem St.entry {W5 : World} (h : St W a4 a6 eb sb qb r B m pl L) (o : Ord a4 a6 eb sb qb r B) {g : Nat} (hg : g < 3) (h5 : Below W.heap.size W W5) : ∃ ps c oa cap, W.heap[r]? = some (.map (ents (KK a4 a6) ps).toArray c) ∧ Plain.Good ps c ∧ Mem.Rows W sb B ps L ∧ (lookE g ps).getD (.slice none 0 0) = .slice oa (L g).length cap ∧
    (Instr.mapEntry 58 (.map (some r)) (.agg #[.int .u64 (Hi g), .int .u64 (Lo g), .pointer (some (Pt a4 a6 g)), .int .u8 (Bt g)])).run Ybad.prog W5 = .ok (.tuple #[.slice oa (L g).length cap, .int .i64 (stampOf g c ps : Int)]) (ChangeMaps.setBlock W5 r (.map (ents (KK a4 a6) (entered g (.slice none 0 0) c ps)).toArray (clockAfter g c ps))) ∧
    (ChangeMaps.setBlock W5 r (.map (ents (KK a4 a6) (entered g (.slice none 0 0) c ps)).toArray (clockAfter g c ps))).ownsRow B 100 1 (.slice oa (L g).length cap) (L g).length ((L g).map (rp sb)) := by
  have e3 := o.rq; have e4 := o.qB; have e5 := h.bB
  obtain ⟨ps, c, h1, h2, h3⟩ := h.mp
  have hr := (h3.1 g hg).1
  have hv : ∃ oa cap, (lookE g ps).getD (.slice none 0 0) = .slice oa (L g).length cap := by
    rcases hr.2 with ⟨e1, e2⟩ | ⟨b, cap, cur, e1, _⟩
    · exact ⟨none, 0, by rw [e1, e2]⟩
    · exact ⟨_, cap, e1⟩
  obtain ⟨oa, cap, hv⟩ := hv
  have hm5 : W5.heap[r]? = some (.map (ents (KK a4 a6) ps).toArray c) := (h5.block r (by omega)).trans h1
  have hme := run_mapEntry (P := Ybad.prog) (W := W5) Ybad.underlying58 zero88 (keys a4 a6 W5) r ps c hm5 g hg h2.lt
  refine ⟨ps, c, oa, cap, h1, h2, h3, hv, ?_, ?_⟩
  · rw [hv] at hme; exact hme
  · rw [hv] at hr
    refine ⟨hr.1, ?_⟩
    rcases hr.2 with q | ⟨b, cap2, cur, q1, q2, q3, q4⟩
    · exact .inl q
    · refine .inr ⟨b, cap2, cur, q1, q2, ?_, q4⟩
      rw [heap_setBlock _ _ _ _ (by omega)]
      exact (h5.block b (block_lt q3)).trans q3

set_option maxHeartbeats 3200000 in
/-- from nothing to an entry -/
theorem dep_ins (h : St W a4 a6 eb sb qb r B m pl L) (hA : Abs m pl L) (o : Ord a4 a6 eb sb qb r B) {i k : Nat} (hi : i < 3) (hm : m i = 4) (hk : k < 4) :
    Calls Ybad.prog 7 #[.pointer (some ⟨qb, 0, none⟩), .pointer (some ⟨sb, i * 19, none⟩), .pointer (some ⟨eb, k * 38, none⟩)] W (Post W a4 a6 eb sb qb r B (up m i k)) := by
  obtain ⟨cs, hb, hR⟩ := h.rs
  have c10 := hb.cell (i * 19 + 10) _ (hR.2 i hi).1
  rw [hm, vp_none] at c10
  have c14 := hb.cell (i * 19 + 14) _ (hR.2 i hi).2
  rw [hA.off i hi hm] at c14
  have HS : Hid (St W a4 a6 eb sb qb r B m pl L) := h
  have HA : Hid (Abs m pl L) := hA
  have HM : Hid (m i = 4) := hm
  have HO : Hid (Ord a4 a6 eb sb qb r B) := o
  have hn := neq51_nil
  clear hb hR h hm hA o
  go_enter Ybad.func7, Ybad.ntmps7
  go_wp2
  go_quiet (fail)
  go_wp2_with (go_at_call 13; refine (prefix_any k hk eb a4 a6 _ (HS.out.later HO.out (bDrewN (Below.refl _ _) _)).gl (HS.out.later HO.out (bDrewN (Below.refl _ _) _)).es).mono ?_; rintro e w2 ⟨rfl, hb⟩; have HB : Hid (Below W.heap.size W w2) := (bDrewN (Below.refl _ _) nq).trans hb; clear hb c10 c14)
  have HX : Hid (Blk (w2.alloc (.cells #[.int .u64 (Hi (grp k)), .int .u64 (Lo (grp k)), .pointer (some (Pt a4 a6 (grp k))), .int .u8 (Bt (grp k))] 43)) w2.heap.size #[.int .u64 (Hi (grp k)), .int .u64 (Lo (grp k)), .pointer (some (Pt a4 a6 (grp k))), .int .u8 (Bt (grp k))] 43 ∧
      Below W.heap.size W (w2.alloc (.cells #[.int .u64 (Hi (grp k)), .int .u64 (Lo (grp k)), .pointer (some (Pt a4 a6 (grp k))), .int .u8 (Bt (grp k))] 43)) ∧ W.heap.size ≤ w2.heap.size) := ⟨Blk.new _ _ _, HB.out.alloc HB.out.size _, HB.out.size⟩
  generalize (w2.alloc (.cells #[.int .u64 (Hi (grp k)), .int .u64 (Lo (grp k)), .pointer (some (Pt a4 a6 (grp k))), .int .u8 (Bt (grp k))] 43)) = W3 at *
  generalize w2.heap.size = x at *
  have HS3 : Hid (St W3 a4 a6 eb sb qb r B m pl L) := HS.out.later HO.out HX.out.2.1
  clear HB nq hn
  obtain ⟨oa, cap, hlk, hown⟩ := St.look (HS3.out.drew) (grp_lt hk)
  have HOwn : Hid (W3.ownsRow B 100 1 (.slice oa (L (grp k)).length cap) (L (grp k)).length ((L (grp k)).map (rp sb))) := hown
  have x0 := HX.out.1.cell 0 _ rfl
  have x1 := HX.out.1.cell 1 _ rfl
  have x2 := HX.out.1.cell 2 _ rfl
  have x3 := HX.out.1.cell 3 _ rfl
  obtain ⟨cr, hcr, hc164⟩ := HS3.out.rib
  have c164 := hcr.cell 164 _ hc164
  obtain ⟨cs3, hb3, hR3⟩ := HS3.out.rs
  have c14 := hb3.cell (i * 19 + 14) _ (hR3.2 i hi).2
  have f14 := hb3.frozen (i * 19 + 14)
  clear hown hcr hc164 hb3 hR3
  generalize hg : grp k = g at *
  have HG : Hid (grp k = g) := hg
  clear hg
  go_region
  have e1 := HO.out.es
  have e2 := HO.out.sr
  have e3 := HO.out.rq
  have e4 := HO.out.qB
  have e5 := HS.out.bB
  have e6 := HX.out.2.2
  have HS4 : Hid (St (W3.setCell ⟨sb, i * 19 + 14, none⟩ (.int .i64 ((L g).length : Int))).drew a4 a6 eb sb qb r B m (up pl i ((L g).length : Int)) L) := (HS3.out.set HO.out _ _ m _ (fun cs hR => hR.place hi _)).drew
  have HX4 : Hid (Blk (W3.setCell ⟨sb, i * 19 + 14, none⟩ (.int .i64 ((L g).length : Int))).drew x _ 43 ∧ Frm B sb r W (W3.setCell ⟨sb, i * 19 + 14, none⟩ (.int .i64 ((L g).length : Int))).drew) := ⟨(HX.out.1.other (a := ⟨sb, i * 19 + 14, none⟩) (by simp; omega) _).drew, ((Frm.of (HX.out.2.1.mono e5)).set _ _).drew⟩
  clear x0 x1 x2 x3 c164 c14 f14 hlk HOwn HS3 HX
  generalize (W3.setCell ⟨sb, i * 19 + 14, none⟩ (.int .i64 ((L g).length : Int))).drew = W4 at *
  have x0 := HX4.out.1.cell 0 _ rfl
  have x1 := HX4.out.1.cell 1 _ rfl
  have x2 := HX4.out.1.cell 2 _ rfl
  have x3 := HX4.out.1.cell 3 _ rfl
  have hxl := HX4.out.1.lt
  obtain ⟨cr4, hcr, hc164⟩ := HS4.out.rib
  have c164 := hcr.cell 164 _ hc164
  have hql := hcr.lt
  have hg3 : g < 3 := HG.out ▸ grp_lt hk
  have hB5 : Below W4.heap.size W4 (W4.alloc (.cells #[.pointer (some ⟨sb, i * 19, none⟩)] 100)).drew := ((Below.refl _ _).alloc (Nat.le_refl _) _).drew
  obtain ⟨ps, c, oa', cap', hmp, hgd, hrw, hv, hme, hown6⟩ := St.entry HS4.out HO.out hg3 hB5
  have HMem : Hid _ := And.intro hmp (And.intro hgd (And.intro hrw hv))
  have HB5 : Hid _ := hB5
  obtain ⟨inf, hinf, hinf2⟩ := Option.map_eq_some_iff.1 info100
  simp only [Prod.mk.injEq] at hinf2
  have HLen : Hid ((L g).length ≤ 3) := HA.out.len g
  have HY : Hid ((ChangeMaps.setBlock (W4.alloc (.cells #[.pointer (some ⟨sb, i * 19, none⟩)] 100)).drew r (.map (ents (KK a4 a6) (entered g (.slice none 0 0) c ps)).toArray (clockAfter g c ps))).heap[W4.heap.size]? = some (.cells #[rp sb i] 100 (0, 0))) := by
    show _ = _
    rw [heap_setBlock _ _ _ _ (by omega)]
    exact heap_alloc_new W4 _
  have HSz : Hid ((ChangeMaps.setBlock (W4.alloc (.cells #[.pointer (some ⟨sb, i * 19, none⟩)] 100)).drew r (.map (ents (KK a4 a6) (entered g (.slice none 0 0) c ps)).toArray (clockAfter g c ps))).heap.size = W4.heap.size + 1) := by
    show _ = _
    rw [size_setBlock]; simp
  have HR6 : Hid ((ChangeMaps.setBlock (W4.alloc (.cells #[.pointer (some ⟨sb, i * 19, none⟩)] 100)).drew r (.map (ents (KK a4 a6) (entered g (.slice none 0 0) c ps)).toArray (clockAfter g c ps))).heap[r]? = some (.map (ents (KK a4 a6) (entered g (.slice none 0 0) c ps)).toArray (clockAfter g c ps))) := heap_setBlock_same _ _ _ (by simp; omega)
  have HOb : Hid (some r ≠ (Value.slice oa' (L g).length cap').ownBlock) := by
    intro e
    rcases hown6.2 with ⟨q1, _⟩ | ⟨b, cap2, cur, q1, q2, _⟩
    · rw [q1] at e; cases e
    · rw [q1] at e; simp [Value.ownBlock] at e; omega
  have HO6 : Hid _ := hown6
  have HI : Hid _ := hinf2
  clear hmp hgd hrw hv hB5 hown6 hcr hc164 hinf2
  go_wp2
  go_region_law ((refine step_append_lies _ (by rfl) _ _ _ (by rfl) B 100 inf (.pointer none) 1 8 Ybad.underlying88 hinf HI.out.1 HI.out.2.1 HI.out.2.2 rfl (by omega) (.slice oa' (L g).length cap') (L g).length ((L g).map (rp sb)) (by rfl) HO6.out ⟨W4.heap.size, 0, none⟩ 1 1 [rp sb i] (by rfl) (by rfl) (World.news_of_block (cs := #[rp sb i]) (t := 100) (fr := (0, 0)) HY.out) (by simp [Value.oneCell', rp]) (by omega) (by have := HLen.out; unfold maxLen; omega) (by have := HLen.out; omega) (by rw [HSz.out]; omega) (W4.heap.size + 1) HSz.out ?_; intro gb capn w1 hown1 hgrow hat hlt1; have hes := run_entryStore (P := Ybad.prog) (W := w1) (K := KK a4 a6) (z := .slice none 0 0) (mt := 58) r ps c (clockAfter g c ps) g HMem.out.2.1.st ((hgrow.block r (by rw [HSz.out]; omega) HOb.out).trans HR6.out) (.slice (some ⟨gb, 0, none⟩) ((L g).length + 1) capn)))
  all_goals
    obtain ⟨hS7, hF7⟩ := ins_mem (i := i) HS4.out HO.out HMem.out.1 HMem.out.2.1 HMem.out.2.2.1 hg3 HMem.out.2.2.2 HB5.out hown1 hgrow (by rcases hat with q | q; exact .inl q; exact .inr (by rw [q]; simp))
    have HS7 : Hid _ := hS7
    have HF7 : Hid _ := hF7
    clear hS7 hF7 hes hme hown1 hgrow hat hlt1 HY HSz HR6 HOb HO6 HB5 HMem x0 x1 x2 x3 c164
    generalize (ChangeMaps.setBlock w1 r _) = W7 at *
    obtain ⟨cs7, hb7, hR7⟩ := HS7.out.rs
    have c10 := hb7.cell (i * 19 + 10) _ (hR7.2 i hi).1
    have f10 := hb7.frozen (i * 19 + 10)
    clear hb7 hR7
    go_wp2
    refine bodyPost_end (v := .tuple #[]) (by simp [results, Ybad.results7]) rfl ⟨rfl, ⟨_, _, HS7.out.set HO.out (i * 19 + 10) _ (up m i k) _ (fun cs hR => by have := hR.via hi k; rwa [vp_some hk] at this), ?_⟩, (HX4.out.2.trans HF7.out).set _ _⟩
    have hfin := HA.out.ins hi HM.out hk
    rw [HG.out] at hfin
    exact hfin
end
end Go.Proofs.YbulkbnzmDoor.Dep2
