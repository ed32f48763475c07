import Derived.Test.YbulkbnzmDoorDep3
namespace Go.Proofs.YbulkbnzmDoor.Dep4
open Go.RowKit MapLaw Base Net Net2 Net3 Net4 Plain Mem Dep1 Ins Dep2 Rem Dep3
set_option linter.unusedVariables false
set_option maxRecDepth 100000

section
variable {W : World} {a4 a6 : Addr} {eb sb qb r B : Nat} {m : Nat → Nat} {pl : Nat → Int} {L : Nat → List Nat}

set_option maxHeartbeats 12800000 in
/-- from an entry to one of another prefix -/
theorem dep_move (h : St W a4 a6 eb sb qb r B m pl L) (hA : Abs m pl L) (o : Ord a4 a6 eb sb qb r B) {i k : Nat} (hi : i < 3) (hm : m i < 4) (hk : k < 4) (hg : grp k ≠ grp (m i)) :
    Calls Ybad.prog 7 #[.pointer (some ⟨qb, 0, none⟩), .pointer (some ⟨sb, i * 19, none⟩), .pointer (some ⟨eb, k * 38, none⟩)] W (Post W a4 a6 eb sb qb r B (up m i k)) := by
  obtain ⟨cs, hb, hR⟩ := h.rs
  have c10 := hb.cell (i * 19 + 10) _ (hR.2 i hi).1
  rw [vp_some hm] at c10
  obtain ⟨p, hp, hpp⟩ := hA.on i hi hm
  have hl0 := (List.getElem?_eq_some_iff.1 hpp).1
  obtain ⟨n, hn⟩ : ∃ n, (L (grp (m i))).length = n + 1 := ⟨(L (grp (m i))).length - 1, by omega⟩
  have HS0 : Hid (St W a4 a6 eb sb qb r B m pl L) := h
  have HA : Hid (Abs m pl L) := hA
  have HM : Hid (m i < 4) := hm
  have HO : Hid (Ord a4 a6 eb sb qb r B) := o
  have HP : Hid (pl i = (p : Int) ∧ (L (grp (m i)))[p]? = some i ∧ (L (grp (m i))).length = n + 1 ∧ p < n + 1) := ⟨hp, hpp, hn, by omega⟩
  have HC : Hid (W.drew.cell? ⟨sb, i * 19 + 10, none⟩ = some (.pointer (some ⟨eb, m i * 38, none⟩)) ∧ Below W.heap.size W W.drew) := ⟨c10, (Below.refl _ _).drew⟩
  have hl := hb.lt
  clear hb hR h hA o hp hpp hn hl0
  generalize hmi : m i = k0 at *
  have HKI : Hid (m i = k0) := hmi
  have hgd := guardKK a4 a6 (grp k) (grp k0)
  have hq := neqKK a4 a6 (grp k) (grp k0) (grp_lt hk) (grp_lt hm)
  rw [show (grp k == grp k0) = false by simpa using hg] at hq
  clear hmi hg
  go_enter Ybad.func7, Ybad.ntmps7
  go_wp2
  go_region_held3 (fun w2 => w2.cell? ⟨sb, i * 19 + 10, none⟩ = some (.pointer (some ⟨eb, k0 * 38, none⟩)) ∧ Below W.heap.size W w2)
    ((first | exact HC.out | exact kp hl (by assumption) (by assumption)))
    ((go_at_call 13; have hS1 : _ ∧ Below W.heap.size W _ := (by assumption); refine (prefix_K _ (by assumption) eb a4 a6 _ (HS0.out.later HO.out hS1.2).gl (HS0.out.later HO.out hS1.2).es).mono ?_; clear hS1; rintro e V ⟨rfl, hb⟩))
  have hh : V.cell? ⟨sb, i * 19 + 10, none⟩ = some (.pointer (some ⟨eb, k0 * 38, none⟩)) ∧ Below W.heap.size W V := by assumption
  have c10' := hh.1
  have HS : Hid (St V a4 a6 eb sb qb r B m pl L) := HS0.out.later HO.out hh.2
  have HF0 : Hid (Frm B sb r W V) := Frm.of (hh.2.mono HS0.out.bB)
  clear hh c10 HC hq hgd HS0 hl
  go_wp2_with (go_at_call 13; refine (prefix_any k0 HM.out eb a4 a6 _ HS.out.gl HS.out.es).mono ?_; rintro e w2 ⟨rfl, hb⟩; have HB : Hid (Below V.heap.size V w2) := hb; clear hb c10')
  have HX : Hid (Blk (w2.alloc (.cells #[.int .u64 (Hi (grp k0)), .int .u64 (Lo (grp k0)), .pointer (some (Pt a4 a6 (grp k0))), .int .u8 (Bt (grp k0))] 43)) w2.heap.size #[.int .u64 (Hi (grp k0)), .int .u64 (Lo (grp k0)), .pointer (some (Pt a4 a6 (grp k0))), .int .u8 (Bt (grp k0))] 43 ∧
      Below V.heap.size V (w2.alloc (.cells #[.int .u64 (Hi (grp k0)), .int .u64 (Lo (grp k0)), .pointer (some (Pt a4 a6 (grp k0))), .int .u8 (Bt (grp k0))] 43)) ∧ V.heap.size ≤ w2.heap.size) := ⟨Blk.new _ _ _, HB.out.alloc HB.out.size _, HB.out.size⟩
  generalize (w2.alloc (.cells #[.int .u64 (Hi (grp k0)), .int .u64 (Lo (grp k0)), .pointer (some (Pt a4 a6 (grp k0))), .int .u8 (Bt (grp k0))] 43)) = W3 at *
  generalize w2.heap.size = x at *
  have HS3 : Hid (St W3 a4 a6 eb sb qb r B m pl L) := HS.out.later HO.out HX.out.2.1
  have hg3 : grp k0 < 3 := grp_lt HM.out
  generalize hg : grp k0 = g at *
  have HG : Hid (grp k0 = g) := hg
  clear hg HB
  obtain ⟨ps, c, b, cap, hmp, hgd, hrw, hv, hlk, hown, hBb⟩ := St.look1 (St.drew HS3.out) hg3 HP.out.2.2.1
  have HMem : Hid _ := And.intro hmp (And.intro hgd (And.intro hrw (And.intro hv (And.intro hown hBb))))
  have x0 := HX.out.1.cell 0 _ rfl
  have x1 := HX.out.1.cell 1 _ rfl
  have x2 := HX.out.1.cell 2 _ rfl
  have x3 := HX.out.1.cell 3 _ rfl
  obtain ⟨cr, hcr, hc164⟩ := HS3.out.rib
  have c164 := hcr.cell 164 _ hc164
  clear hown hcr hc164 hmp hgd hrw hv hBb
  go_region
  have HX3 : Hid (Blk W3.drew x _ 43 ∧ Below V.heap.size V W3.drew ∧ V.heap.size ≤ x) := ⟨HX.out.1.drew, HX.out.2.1.drew, HX.out.2.2⟩
  have HS4 : Hid (St W3.drew a4 a6 eb sb qb r B m pl L) := St.drew HS3.out
  clear x0 x1 x2 x3 c164 hlk HX HS3
  generalize W3.drew = W4 at *
  -- last, and the two stores
  have hlast : W4.cell? ⟨b, n, none⟩ = some (rp sb ((L g).getLastD 0)) := by
    rw [HMem.out.2.2.2.2.1.cellAt n (by omega), List.getElem?_map]
    have e : n = (L g).length - 1 := by have := HP.out.2.2.1; omega
    rw [e, last_at (by have := HP.out.2.2.1; omega)]
    rfl
  have hp0 : W4.cell? ⟨b, p, none⟩ = some (rp sb i) := by
    rw [HMem.out.2.2.2.2.1.cellAt p (by have := HP.out.2.2.2; omega), List.getElem?_map, HP.out.2.1]
    rfl
  have hlt3 : (L g).getLastD 0 < 3 := by
    have hla := last_at (l := L g) (by have := HP.out.2.2.1; omega)
    exact (HA.out.back _ _ _ hla).1
  generalize hll : (L g).getLastD 0 = lst at *
  have HLst : Hid ((L g).getLastD 0 = lst) := hll
  clear hll
  rw [rp_run] at hlast hp0
  have fb0 := HMem.out.2.2.2.2.1.frozenAt p
  have fb1 := HMem.out.2.2.2.2.1.frozenAt n
  obtain ⟨cs4, hb4, hR4⟩ := HS4.out.rs
  have c14 := hb4.cell (i * 19 + 14) _ (hR4.2 i hi).2
  have d14 := hb4.cell (lst * 19 + 14) _ (hR4.2 lst hlt3).2
  have f14 := hb4.frozen (i * 19 + 14)
  have g14 := hb4.frozen (lst * 19 + 14)
  rw [HP.out.1] at c14
  clear hb4 hR4
  have nbs : ¬ b = sb := by have := HMem.out.2.2.2.2.2; have h1 := HO.out.sr; have h2 := HO.out.rq; have h3 := HO.out.qB; omega
  have nsb : ¬ sb = b := fun e => nbs e.symm
  have hw1 : IntKind.i64.wrap (n : Int) = (n : Int) := by
    have := HA.out.len g
    have h2 := HP.out.2.2.1
    exact wrap3 n (by omega)
  have hpn : (p : Int) < (n : Int) + 1 := by have := HP.out.2.2.2; omega
  have hcapn : (n : Int) ≤ (cap : Int) := by
    rcases HMem.out.2.2.2.2.1.2 with ⟨q, _⟩ | ⟨b2, cap2, cur, q1, q2, q3, q4, _⟩
    · cases q
    · simp at q1; omega
  go_wp2
  go_region
  have HM5 : Hid (Mid W4 ((W4.setCell ⟨b, p, none⟩ (.pointer (some ⟨sb, lst * 19, none⟩))).setCell ⟨sb, lst * 19 + 14, none⟩ (.int .i64 (p : Int))).drew eb sb B b n cap m (up pl lst (p : Int)) (((L g).map (rp sb)).set p (rp sb lst))) :=
    Mid.first HS4.out HO.out HMem.out.2.2.2.2.2 hlt3 HMem.out.2.2.2.2.1 (rp sb lst)
  clear hlast hp0 fb0 fb1 c14 d14 f14 g14
  generalize ((W4.setCell ⟨b, p, none⟩ (.pointer (some ⟨sb, lst * 19, none⟩))).setCell ⟨sb, lst * 19 + 14, none⟩ (.int .i64 (p : Int))).drew = W5 at *
  obtain ⟨u, hu⟩ : ∃ u, W5.cell? ⟨b, n, none⟩ = some u := by
    have hl := HM5.out.own.1
    rw [HM5.out.own.cellAt n (by omega), List.getElem?_eq_getElem (by rw [hl]; omega)]
    exact ⟨_, rfl⟩
  have fu := HM5.out.own.frozenAt n
  by_cases hn0 : n = 0
  · subst hn0
    go_wp2
    have HM6 : Hid (Mid W4 (W5.setCell ⟨b, 0, none⟩ (.pointer none)) eb sb B b 0 cap m (up pl lst (p : Int)) ((((L g).map (rp sb)).set p (rp sb ((L g).getLastD 0))).set 0 (.pointer none))) := by rw [HLst.out]; exact HM5.out.next nsb _
    clear hu fu HM5
    generalize (W5.setCell ⟨b, 0, none⟩ (.pointer none)) = W6 at *
    obtain ⟨k164, kx, kdel, kupd, kst0, kst1⟩ := rem_ready HS4.out HO.out HMem.out.1 HMem.out.2.1 HMem.out.2.2.1 hg3 HMem.out.2.2.2.1 HMem.out.2.2.2.2.2 HP.out.2.2.1 HP.out.2.2.2 HX3.out.1 (Nat.le_trans HS.out.bB HX3.out.2.2) HM6.out
    have x0 := kx.cell 0 _ rfl
    have x1 := kx.cell 1 _ rfl
    have x2 := kx.cell 2 _ rfl
    have x3 := kx.cell 3 _ rfl
    have HK : Hid _ := kst0 rfl
    clear kx kst0 kst1
    go_region
    obtain ⟨hS7, hF7⟩ := HK.out
    have HS7 : Hid _ := hS7
    have HF7 : Hid _ := HF0.out.trans ((Frm.of (HX3.out.2.1.mono HS.out.bB)).trans hF7)
    clear hS7 hF7 HK kdel kupd k164 x0 x1 x2 x3 HM6 HX3 HMem
    generalize (ChangeMaps.setBlock W6.drew r _) = W7 at *
    obtain ⟨cs7, hb7, hR7⟩ := HS7.out.rs
    have c14 := hb7.cell (i * 19 + 14) _ (hR7.2 i hi).2
    have f14 := hb7.frozen (i * 19 + 14)
    clear hb7 hR7
    have hfin0 := HA.out.rem hi (by rw [HKI.out]; exact HM.out) HP.out.1
    rw [HKI.out, HG.out, HLst.out] at hfin0
    have HA8 : Hid _ := hfin0
    have HS8 : Hid (St (W7.setCell ⟨sb, i * 19 + 14, none⟩ (.int .i64 (-1))) a4 a6 eb sb qb r B m _ _) := HS7.out.set HO.out (i * 19 + 14) _ m _ (fun cs hR => hR.place hi (-1))
    have HF8 : Hid _ := HF7.out.set (i * 19 + 14) (.int .i64 (-1))
    clear hfin0 HS7 HF7
    generalize (up (up pl lst (p : Int)) i (-1)) = pl8 at *
    generalize (up L g (dropAt (L g) p)) = L8 at *
    go_wp2_with (go_at_call 13; refine (prefix_any k hk eb a4 a6 _ HS8.out.gl HS8.out.es).mono ?_; rintro e v2 ⟨rfl, hb⟩; have HB8 : Hid (Below _ _ v2) := hb; clear hb c14 f14)
    generalize (W7.setCell ⟨sb, i * 19 + 14, none⟩ (.int .i64 (-1))) = W8 at *
    have IX : Hid (Blk (v2.alloc (.cells #[.int .u64 (Hi (grp k)), .int .u64 (Lo (grp k)), .pointer (some (Pt a4 a6 (grp k))), .int .u8 (Bt (grp k))] 43)) v2.heap.size #[.int .u64 (Hi (grp k)), .int .u64 (Lo (grp k)), .pointer (some (Pt a4 a6 (grp k))), .int .u8 (Bt (grp k))] 43 ∧
        Below W8.heap.size W8 (v2.alloc (.cells #[.int .u64 (Hi (grp k)), .int .u64 (Lo (grp k)), .pointer (some (Pt a4 a6 (grp k))), .int .u8 (Bt (grp k))] 43)) ∧ W8.heap.size ≤ v2.heap.size) := ⟨Blk.new _ _ _, HB8.out.alloc HB8.out.size _, HB8.out.size⟩
    generalize (v2.alloc (.cells #[.int .u64 (Hi (grp k)), .int .u64 (Lo (grp k)), .pointer (some (Pt a4 a6 (grp k))), .int .u8 (Bt (grp k))] 43)) = V3 at *
    generalize v2.heap.size = y at *
    have IS3 : Hid (St V3 a4 a6 eb sb qb r B m pl8 L8) := HS8.out.later HO.out IX.out.2.1
    clear HB8
    obtain ⟨ob, capb, hlk, hown⟩ := St.look (IS3.out.drew) (grp_lt hk)
    have IOwn : Hid (V3.ownsRow B 100 1 (.slice ob (L8 (grp k)).length capb) (L8 (grp k)).length ((L8 (grp k)).map (rp sb))) := hown
    have y0 := IX.out.1.cell 0 _ rfl
    have y1 := IX.out.1.cell 1 _ rfl
    have y2 := IX.out.1.cell 2 _ rfl
    have y3 := IX.out.1.cell 3 _ rfl
    obtain ⟨er, hcr, hc164⟩ := IS3.out.rib
    have c164 := hcr.cell 164 _ hc164
    obtain ⟨es3, hb3, hR3⟩ := IS3.out.rs
    have c14 := hb3.cell (i * 19 + 14) _ (hR3.2 i hi).2
    have f14 := hb3.frozen (i * 19 + 14)
    clear hown hcr hc164 hb3 hR3
    generalize ig : grp k = h at *
    have IG : Hid (grp k = h) := ig
    clear ig
    go_region
    have t1 := HO.out.es
    have t2 := HO.out.sr
    have t3 := HO.out.rq
    have t4 := HO.out.qB
    have t5 := HS8.out.bB
    have t6 := IX.out.2.2
    have IS4 : Hid (St (V3.setCell ⟨sb, i * 19 + 14, none⟩ (.int .i64 ((L8 h).length : Int))).drew a4 a6 eb sb qb r B m (up pl8 i ((L8 h).length : Int)) L8) := (IS3.out.set HO.out _ _ m _ (fun es hR => hR.place hi _)).drew
    have IX4 : Hid (Blk (V3.setCell ⟨sb, i * 19 + 14, none⟩ (.int .i64 ((L8 h).length : Int))).drew y _ 43 ∧ Frm B sb r W8 (V3.setCell ⟨sb, i * 19 + 14, none⟩ (.int .i64 ((L8 h).length : Int))).drew) := ⟨(IX.out.1.other (a := ⟨sb, i * 19 + 14, none⟩) (by simp; omega) _).drew, ((Frm.of (IX.out.2.1.mono t5)).set _ _).drew⟩
    clear y0 y1 y2 y3 c164 c14 f14 hlk IOwn IS3 IX
    generalize (V3.setCell ⟨sb, i * 19 + 14, none⟩ (.int .i64 ((L8 h).length : Int))).drew = V4 at *
    have y0 := IX4.out.1.cell 0 _ rfl
    have y1 := IX4.out.1.cell 1 _ rfl
    have y2 := IX4.out.1.cell 2 _ rfl
    have y3 := IX4.out.1.cell 3 _ rfl
    have hxl := IX4.out.1.lt
    obtain ⟨er4, hcr, hc164⟩ := IS4.out.rib
    have c164 := hcr.cell 164 _ hc164
    have hql := hcr.lt
    have ig3 : h < 3 := IG.out ▸ grp_lt hk
    have iB5 : Below V4.heap.size V4 (V4.alloc (.cells #[.pointer (some ⟨sb, i * 19, none⟩)] 100)).drew := ((Below.refl _ _).alloc (Nat.le_refl _) _).drew
    obtain ⟨qs, cc, ob', capb', hmp, hgd, hrw, hv, hme, hown6⟩ := St.entry IS4.out HO.out ig3 iB5
    have IMem : Hid _ := And.intro hmp (And.intro hgd (And.intro hrw hv))
    have IB5 : Hid _ := iB5
    obtain ⟨jnf, hjnf, hjnf2⟩ := Option.map_eq_some_iff.1 info100
    simp only [Prod.mk.injEq] at hjnf2
    have ILen : Hid ((L8 h).length ≤ 3) := HA8.out.len h
    have IY : Hid ((ChangeMaps.setBlock (V4.alloc (.cells #[.pointer (some ⟨sb, i * 19, none⟩)] 100)).drew r (.map (ents (KK a4 a6) (entered h (.slice none 0 0) cc qs)).toArray (clockAfter h cc qs))).heap[V4.heap.size]? = some (.cells #[rp sb i] 100 (0, 0))) := by
      show _ = _
      rw [heap_setBlock _ _ _ _ (by omega)]
      exact heap_alloc_new V4 _
    have ISz : Hid ((ChangeMaps.setBlock (V4.alloc (.cells #[.pointer (some ⟨sb, i * 19, none⟩)] 100)).drew r (.map (ents (KK a4 a6) (entered h (.slice none 0 0) cc qs)).toArray (clockAfter h cc qs))).heap.size = V4.heap.size + 1) := by
      show _ = _
      rw [size_setBlock]; simp
    have IR6 : Hid ((ChangeMaps.setBlock (V4.alloc (.cells #[.pointer (some ⟨sb, i * 19, none⟩)] 100)).drew r (.map (ents (KK a4 a6) (entered h (.slice none 0 0) cc qs)).toArray (clockAfter h cc qs))).heap[r]? = some (.map (ents (KK a4 a6) (entered h (.slice none 0 0) cc qs)).toArray (clockAfter h cc qs))) := heap_setBlock_same _ _ _ (by simp; omega)
    have IOb : Hid (some r ≠ (Value.slice ob' (L8 h).length capb').ownBlock) := by
      intro e
      rcases hown6.2 with ⟨q1, _⟩ | ⟨b, cap2, cur, q1, q2, _⟩
      · rw [q1] at e; cases e
      · rw [q1] at e; simp [Value.ownBlock] at e; omega
    have IO6 : Hid _ := hown6
    have II : Hid _ := hjnf2
    clear hmp hgd hrw hv iB5 hown6 hcr hc164 hjnf2
    go_wp2
    go_region_law ((refine step_append_lies _ (by rfl) _ _ _ (by rfl) B 100 jnf (.pointer none) 1 8 Ybad.underlying88 hjnf II.out.1 II.out.2.1 II.out.2.2 rfl (by omega) (.slice ob' (L8 h).length capb') (L8 h).length ((L8 h).map (rp sb)) (by rfl) IO6.out ⟨V4.heap.size, 0, none⟩ 1 1 [rp sb i] (by rfl) (by rfl) (World.news_of_block (cs := #[rp sb i]) (t := 100) (fr := (0, 0)) IY.out) (by simp [Value.oneCell', rp]) (by omega) (by have := ILen.out; unfold maxLen; omega) (by have := ILen.out; omega) (by rw [ISz.out]; omega) (V4.heap.size + 1) ISz.out ?_; intro gb capn v1 hown1 hgrow hat hlt1; have hes := run_entryStore (P := Ybad.prog) (W := v1) (K := KK a4 a6) (z := .slice none 0 0) (mt := 58) r qs cc (clockAfter h cc qs) h IMem.out.2.1.st ((hgrow.block r (by rw [ISz.out]; omega) IOb.out).trans IR6.out) (.slice (some ⟨gb, 0, none⟩) ((L8 h).length + 1) capn)))
    all_goals
      obtain ⟨hS7, hF7⟩ := ins_mem (i := i) IS4.out HO.out IMem.out.1 IMem.out.2.1 IMem.out.2.2.1 ig3 IMem.out.2.2.2 IB5.out hown1 hgrow (by rcases hat with q | q; exact .inl q; exact .inr (by rw [q]; simp))
      have IS7 : Hid _ := hS7
      have IF7 : Hid _ := hF7
      clear hS7 hF7 hes hme hown1 hgrow hat hlt1 IY ISz IR6 IOb IO6 IB5 IMem y0 y1 y2 y3 c164
      generalize (ChangeMaps.setBlock v1 r _) = V7 at *
      obtain ⟨es7, hb7, hR7⟩ := IS7.out.rs
      have c10 := hb7.cell (i * 19 + 10) _ (hR7.2 i hi).1
      have f10 := hb7.frozen (i * 19 + 10)
      clear hb7 hR7
      go_wp2
      refine bodyPost_end (v := .tuple #[]) (by simp [results, Ybad.results7]) rfl ⟨rfl, ⟨_, _, IS7.out.set HO.out (i * 19 + 10) _ (up m i k) _ (fun es hR => by have := hR.via hi k; rwa [vp_some hk] at this), ?_⟩, (HF8.out.trans (IX4.out.2.trans IF7.out)).set _ _⟩
      have hfin := HA8.out.ins hi (up_same m i 4) hk
      rw [IG.out] at hfin
      have eu : up (up m i 4) i k = up m i k := by funext z; by_cases hz : z = i; subst hz; simp; rw [up_other _ _ hz, up_other _ _ hz, up_other _ _ hz]
      rw [eu] at hfin
      exact hfin
  · have hn1 : ¬ (n : Int) = 0 := by omega
    go_wp2
    have HM6 : Hid (Mid W4 (W5.setCell ⟨b, n, none⟩ (.pointer none)) eb sb B b n cap m (up pl lst (p : Int)) ((((L g).map (rp sb)).set p (rp sb ((L g).getLastD 0))).set n (.pointer none))) := by rw [HLst.out]; exact HM5.out.next nsb _
    clear hu fu HM5
    generalize (W5.setCell ⟨b, n, none⟩ (.pointer none)) = W6 at *
    obtain ⟨k164, kx, kdel, kupd, kst0, kst1⟩ := rem_ready HS4.out HO.out HMem.out.1 HMem.out.2.1 HMem.out.2.2.1 hg3 HMem.out.2.2.2.1 HMem.out.2.2.2.2.2 HP.out.2.2.1 HP.out.2.2.2 HX3.out.1 (Nat.le_trans HS.out.bB HX3.out.2.2) HM6.out
    have x0 := kx.cell 0 _ rfl
    have x1 := kx.cell 1 _ rfl
    have x2 := kx.cell 2 _ rfl
    have x3 := kx.cell 3 _ rfl
    have HK : Hid _ := kst1 hn0
    clear kx kst0 kst1
    go_region
    obtain ⟨hS7, hF7⟩ := HK.out
    have HS7 : Hid _ := hS7
    have HF7 : Hid _ := HF0.out.trans ((Frm.of (HX3.out.2.1.mono HS.out.bB)).trans hF7)
    clear hS7 hF7 HK kdel kupd k164 x0 x1 x2 x3 HM6 HX3 HMem
    generalize (ChangeMaps.setBlock W6.drew r _) = W7 at *
    obtain ⟨cs7, hb7, hR7⟩ := HS7.out.rs
    have c14 := hb7.cell (i * 19 + 14) _ (hR7.2 i hi).2
    have f14 := hb7.frozen (i * 19 + 14)
    clear hb7 hR7
    have hfin0 := HA.out.rem hi (by rw [HKI.out]; exact HM.out) HP.out.1
    rw [HKI.out, HG.out, HLst.out] at hfin0
    have HA8 : Hid _ := hfin0
    have HS8 : Hid (St (W7.setCell ⟨sb, i * 19 + 14, none⟩ (.int .i64 (-1))) a4 a6 eb sb qb r B m _ _) := HS7.out.set HO.out (i * 19 + 14) _ m _ (fun cs hR => hR.place hi (-1))
    have HF8 : Hid _ := HF7.out.set (i * 19 + 14) (.int .i64 (-1))
    clear hfin0 HS7 HF7
    generalize (up (up pl lst (p : Int)) i (-1)) = pl8 at *
    generalize (up L g (dropAt (L g) p)) = L8 at *
    go_wp2_with (go_at_call 13; refine (prefix_any k hk eb a4 a6 _ HS8.out.gl HS8.out.es).mono ?_; rintro e v2 ⟨rfl, hb⟩; have HB8 : Hid (Below _ _ v2) := hb; clear hb c14 f14)
    generalize (W7.setCell ⟨sb, i * 19 + 14, none⟩ (.int .i64 (-1))) = W8 at *
    have IX : Hid (Blk (v2.alloc (.cells #[.int .u64 (Hi (grp k)), .int .u64 (Lo (grp k)), .pointer (some (Pt a4 a6 (grp k))), .int .u8 (Bt (grp k))] 43)) v2.heap.size #[.int .u64 (Hi (grp k)), .int .u64 (Lo (grp k)), .pointer (some (Pt a4 a6 (grp k))), .int .u8 (Bt (grp k))] 43 ∧
        Below W8.heap.size W8 (v2.alloc (.cells #[.int .u64 (Hi (grp k)), .int .u64 (Lo (grp k)), .pointer (some (Pt a4 a6 (grp k))), .int .u8 (Bt (grp k))] 43)) ∧ W8.heap.size ≤ v2.heap.size) := ⟨Blk.new _ _ _, HB8.out.alloc HB8.out.size _, HB8.out.size⟩
    generalize (v2.alloc (.cells #[.int .u64 (Hi (grp k)), .int .u64 (Lo (grp k)), .pointer (some (Pt a4 a6 (grp k))), .int .u8 (Bt (grp k))] 43)) = V3 at *
    generalize v2.heap.size = y at *
    have IS3 : Hid (St V3 a4 a6 eb sb qb r B m pl8 L8) := HS8.out.later HO.out IX.out.2.1
    clear HB8
    obtain ⟨ob, capb, hlk, hown⟩ := St.look (IS3.out.drew) (grp_lt hk)
    have IOwn : Hid (V3.ownsRow B 100 1 (.slice ob (L8 (grp k)).length capb) (L8 (grp k)).length ((L8 (grp k)).map (rp sb))) := hown
    have y0 := IX.out.1.cell 0 _ rfl
    have y1 := IX.out.1.cell 1 _ rfl
    have y2 := IX.out.1.cell 2 _ rfl
    have y3 := IX.out.1.cell 3 _ rfl
    obtain ⟨er, hcr, hc164⟩ := IS3.out.rib
    have c164 := hcr.cell 164 _ hc164
    obtain ⟨es3, hb3, hR3⟩ := IS3.out.rs
    have c14 := hb3.cell (i * 19 + 14) _ (hR3.2 i hi).2
    have f14 := hb3.frozen (i * 19 + 14)
    clear hown hcr hc164 hb3 hR3
    generalize ig : grp k = h at *
    have IG : Hid (grp k = h) := ig
    clear ig
    go_region
    have t1 := HO.out.es
    have t2 := HO.out.sr
    have t3 := HO.out.rq
    have t4 := HO.out.qB
    have t5 := HS8.out.bB
    have t6 := IX.out.2.2
    have IS4 : Hid (St (V3.setCell ⟨sb, i * 19 + 14, none⟩ (.int .i64 ((L8 h).length : Int))).drew a4 a6 eb sb qb r B m (up pl8 i ((L8 h).length : Int)) L8) := (IS3.out.set HO.out _ _ m _ (fun es hR => hR.place hi _)).drew
    have IX4 : Hid (Blk (V3.setCell ⟨sb, i * 19 + 14, none⟩ (.int .i64 ((L8 h).length : Int))).drew y _ 43 ∧ Frm B sb r W8 (V3.setCell ⟨sb, i * 19 + 14, none⟩ (.int .i64 ((L8 h).length : Int))).drew) := ⟨(IX.out.1.other (a := ⟨sb, i * 19 + 14, none⟩) (by simp; omega) _).drew, ((Frm.of (IX.out.2.1.mono t5)).set _ _).drew⟩
    clear y0 y1 y2 y3 c164 c14 f14 hlk IOwn IS3 IX
    generalize (V3.setCell ⟨sb, i * 19 + 14, none⟩ (.int .i64 ((L8 h).length : Int))).drew = V4 at *
    have y0 := IX4.out.1.cell 0 _ rfl
    have y1 := IX4.out.1.cell 1 _ rfl
    have y2 := IX4.out.1.cell 2 _ rfl
    have y3 := IX4.out.1.cell 3 _ rfl
    have hxl := IX4.out.1.lt
    obtain ⟨er4, hcr, hc164⟩ := IS4.out.rib
    have c164 := hcr.cell 164 _ hc164
    have hql := hcr.lt
    have ig3 : h < 3 := IG.out ▸ grp_lt hk
    have iB5 : Below V4.heap.size V4 (V4.alloc (.cells #[.pointer (some ⟨sb, i * 19, none⟩)] 100)).drew := ((Below.refl _ _).alloc (Nat.le_refl _) _).drew
    obtain ⟨qs, cc, ob', capb', hmp, hgd, hrw, hv, hme, hown6⟩ := St.entry IS4.out HO.out ig3 iB5
    have IMem : Hid _ := And.intro hmp (And.intro hgd (And.intro hrw hv))
    have IB5 : Hid _ := iB5
    obtain ⟨jnf, hjnf, hjnf2⟩ := Option.map_eq_some_iff.1 info100
    simp only [Prod.mk.injEq] at hjnf2
    have ILen : Hid ((L8 h).length ≤ 3) := HA8.out.len h
    have IY : Hid ((ChangeMaps.setBlock (V4.alloc (.cells #[.pointer (some ⟨sb, i * 19, none⟩)] 100)).drew r (.map (ents (KK a4 a6) (entered h (.slice none 0 0) cc qs)).toArray (clockAfter h cc qs))).heap[V4.heap.size]? = some (.cells #[rp sb i] 100 (0, 0))) := by
      show _ = _
      rw [heap_setBlock _ _ _ _ (by omega)]
      exact heap_alloc_new V4 _
    have ISz : Hid ((ChangeMaps.setBlock (V4.alloc (.cells #[.pointer (some ⟨sb, i * 19, none⟩)] 100)).drew r (.map (ents (KK a4 a6) (entered h (.slice none 0 0) cc qs)).toArray (clockAfter h cc qs))).heap.size = V4.heap.size + 1) := by
      show _ = _
      rw [size_setBlock]; simp
    have IR6 : Hid ((ChangeMaps.setBlock (V4.alloc (.cells #[.pointer (some ⟨sb, i * 19, none⟩)] 100)).drew r (.map (ents (KK a4 a6) (entered h (.slice none 0 0) cc qs)).toArray (clockAfter h cc qs))).heap[r]? = some (.map (ents (KK a4 a6) (entered h (.slice none 0 0) cc qs)).toArray (clockAfter h cc qs))) := heap_setBlock_same _ _ _ (by simp; omega)
    have IOb : Hid (some r ≠ (Value.slice ob' (L8 h).length capb').ownBlock) := by
      intro e
      rcases hown6.2 with ⟨q1, _⟩ | ⟨b, cap2, cur, q1, q2, _⟩
      · rw [q1] at e; cases e
      · rw [q1] at e; simp [Value.ownBlock] at e; omega
    have IO6 : Hid _ := hown6
    have II : Hid _ := hjnf2
    clear hmp hgd hrw hv iB5 hown6 hcr hc164 hjnf2
    go_wp2
    go_region_law ((refine step_append_lies _ (by rfl) _ _ _ (by rfl) B 100 jnf (.pointer none) 1 8 Ybad.underlying88 hjnf II.out.1 II.out.2.1 II.out.2.2 rfl (by omega) (.slice ob' (L8 h).length capb') (L8 h).length ((L8 h).map (rp sb)) (by rfl) IO6.out ⟨V4.heap.size, 0, none⟩ 1 1 [rp sb i] (by rfl) (by rfl) (World.news_of_block (cs := #[rp sb i]) (t := 100) (fr := (0, 0)) IY.out) (by simp [Value.oneCell', rp]) (by omega) (by have := ILen.out; unfold maxLen; omega) (by have := ILen.out; omega) (by rw [ISz.out]; omega) (V4.heap.size + 1) ISz.out ?_; intro gb capn v1 hown1 hgrow hat hlt1; have hes := run_entryStore (P := Ybad.prog) (W := v1) (K := KK a4 a6) (z := .slice none 0 0) (mt := 58) r qs cc (clockAfter h cc qs) h IMem.out.2.1.st ((hgrow.block r (by rw [ISz.out]; omega) IOb.out).trans IR6.out) (.slice (some ⟨gb, 0, none⟩) ((L8 h).length + 1) capn)))
    all_goals
      obtain ⟨hS7, hF7⟩ := ins_mem (i := i) IS4.out HO.out IMem.out.1 IMem.out.2.1 IMem.out.2.2.1 ig3 IMem.out.2.2.2 IB5.out hown1 hgrow (by rcases hat with q | q; exact .inl q; exact .inr (by rw [q]; simp))
      have IS7 : Hid _ := hS7
      have IF7 : Hid _ := hF7
      clear hS7 hF7 hes hme hown1 hgrow hat hlt1 IY ISz IR6 IOb IO6 IB5 IMem y0 y1 y2 y3 c164
      generalize (ChangeMaps.setBlock v1 r _) = V7 at *
      obtain ⟨es7, hb7, hR7⟩ := IS7.out.rs
      have c10 := hb7.cell (i * 19 + 10) _ (hR7.2 i hi).1
      have f10 := hb7.frozen (i * 19 + 10)
      clear hb7 hR7
      go_wp2
      refine bodyPost_end (v := .tuple #[]) (by simp [results, Ybad.results7]) rfl ⟨rfl, ⟨_, _, IS7.out.set HO.out (i * 19 + 10) _ (up m i k) _ (fun es hR => by have := hR.via hi k; rwa [vp_some hk] at this), ?_⟩, (HF8.out.trans (IX4.out.2.trans IF7.out)).set _ _⟩
      have hfin := HA8.out.ins hi (up_same m i 4) hk
      rw [IG.out] at hfin
      have eu : up (up m i 4) i k = up m i k := by funext z; by_cases hz : z = i; subst hz; simp; rw [up_other _ _ hz, up_other _ _ hz, up_other _ _ hz]
      rw [eu] at hfin
      exact hfin
end
end Go.Proofs.YbulkbnzmDoor.Dep4
