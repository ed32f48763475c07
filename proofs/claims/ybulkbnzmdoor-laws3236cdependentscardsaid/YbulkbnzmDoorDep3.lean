import Derived.Test.YbulkbnzmDoorRem
namespace Go.Proofs.YbulkbnzmDoor.Dep3
open Go.RowKit MapLaw Base Net Net2 Net3 Net4 Plain Mem Dep1 Ins Dep2 Rem
set_option linter.unusedVariables false
set_option maxRecDepth 100000

section
variable {W : World} {a4 a6 : Addr} {eb sb qb r B : Nat} {m : Nat → Nat} {pl : Nat → Int} {L : Nat → List Nat}

theorem wrap3 (n : Nat) (h : n ≤ 2) : IntKind.i64.wrap (n : Int) = (n : Int) := by
  have h3 : n = 0 ∨ n = 1 ∨ n = 2 := by omega
  rcases h3 with rfl | rfl | rfl <;> rfl
theorem rp_run (sb i : Nat) : rp sb i = .pointer (some ⟨sb, i * 19, none⟩) := rfl

/-- the list of a prefix that has dependents, looked up -/
theorem St.look1 (h : St W a4 a6 eb sb qb r B m pl L) {g n : Nat} (hg : g < 3) (hl : (L g).length = n + 1) : ∃ ps c b cap, W.heap[r]? = some (.map (ents (KK a4 a6) ps).toArray c) ∧ Plain.Good ps c ∧ Mem.Rows W sb B ps L ∧ lookE g ps = some (.slice (some ⟨b, 0, none⟩) (n + 1) cap) ∧
    ((Instr.lookup 58 (.map (some r)) (.agg #[.int .u64 (Hi g), .int .u64 (Lo g), .pointer (some (Pt a4 a6 g)), .int .u8 (Bt g)]) false).run Ybad.prog W = .ok (.slice (some ⟨b, 0, none⟩) (n + 1) cap) W) ∧
    W.ownsRow B 100 1 (.slice (some ⟨b, 0, none⟩) (n + 1) cap) (n + 1) ((L g).map (rp sb)) ∧ B ≤ b := by
  obtain ⟨ps, c, h1, h2, h3⟩ := h.mp
  have hr := h3.1 g hg
  have hs := hr.2.2 (by omega)
  obtain ⟨v, hv⟩ := Option.isSome_iff_exists.1 hs
  have hr1 := hr.1
  rw [hv, hl] at hr1
  have hlk : (Instr.lookup 58 (.map (some r)) (KK a4 a6 g) false).run Ybad.prog W = .ok ((lookE g ps).getD (.slice none 0 0)) W :=
    run_lookup Ybad.underlying58 zero88 (keys a4 a6 _) r ps c h1 g hg h2.lt
  rcases hr1.2 with ⟨_, q⟩ | ⟨b, cap, cur, q1, q2, _⟩
  · omega
  · simp at q1
    subst q1
    rw [hv] at hlk
    exact ⟨ps, c, b, cap, h1, h2, h3, hv, hlk, hr1, q2⟩

set_option maxHeartbeats 3200000 in
/-- from an entry to nothing -/
theorem dep_rem (h : St W a4 a6 eb sb qb r B m pl L) (hA : Abs m pl L) (o : Ord a4 a6 eb sb qb r B) {i : Nat} (hi : i < 3) (hm : m i < 4) :
    Calls Ybad.prog 7 #[.pointer (some ⟨qb, 0, none⟩), .pointer (some ⟨sb, i * 19, none⟩), .pointer none] W (Post W a4 a6 eb sb qb r B (up m i 4)) := by
  obtain ⟨cs, hb, hR⟩ := h.rs
  have c10 := hb.cell (i * 19 + 10) _ (hR.2 i hi).1
  rw [vp_some hm] at c10
  obtain ⟨p, hp, hpp⟩ := hA.on i hi hm
  have hl0 := (List.getElem?_eq_some_iff.1 hpp).1
  obtain ⟨n, hn⟩ : ∃ n, (L (grp (m i))).length = n + 1 := ⟨(L (grp (m i))).length - 1, by omega⟩
  have HS : Hid (St W a4 a6 eb sb qb r B m pl L) := h
  have HA : Hid (Abs m pl L) := hA
  have HM : Hid (m i < 4) := hm
  have HO : Hid (Ord a4 a6 eb sb qb r B) := o
  have HP : Hid (pl i = (p : Int) ∧ (L (grp (m i)))[p]? = some i ∧ (L (grp (m i))).length = n + 1 ∧ p < n + 1) := ⟨hp, hpp, hn, by omega⟩
  have hnn := neq51_nil
  clear hb hR h hA o hp hpp hn hl0
  generalize hmi : m i = k0 at *
  have HKI : Hid (m i = k0) := hmi
  clear hmi
  go_enter Ybad.func7, Ybad.ntmps7
  go_wp2
  go_quiet (fail)
  go_wp2_with (go_at_call 13; refine (prefix_any k0 HM.out eb a4 a6 _ (HS.out.later HO.out (bDrewN (Below.refl _ _) _)).gl (HS.out.later HO.out (bDrewN (Below.refl _ _) _)).es).mono ?_; rintro e w2 ⟨rfl, hb⟩; have HB : Hid (Below W.heap.size W w2) := (bDrewN (Below.refl _ _) nq).trans hb; clear hb c10)
  have HX : Hid (Blk (w2.alloc (.cells #[.int .u64 (Hi (grp k0)), .int .u64 (Lo (grp k0)), .pointer (some (Pt a4 a6 (grp k0))), .int .u8 (Bt (grp k0))] 43)) w2.heap.size #[.int .u64 (Hi (grp k0)), .int .u64 (Lo (grp k0)), .pointer (some (Pt a4 a6 (grp k0))), .int .u8 (Bt (grp k0))] 43 ∧
      Below W.heap.size W (w2.alloc (.cells #[.int .u64 (Hi (grp k0)), .int .u64 (Lo (grp k0)), .pointer (some (Pt a4 a6 (grp k0))), .int .u8 (Bt (grp k0))] 43)) ∧ W.heap.size ≤ w2.heap.size) := ⟨Blk.new _ _ _, HB.out.alloc HB.out.size _, HB.out.size⟩
  generalize (w2.alloc (.cells #[.int .u64 (Hi (grp k0)), .int .u64 (Lo (grp k0)), .pointer (some (Pt a4 a6 (grp k0))), .int .u8 (Bt (grp k0))] 43)) = W3 at *
  generalize w2.heap.size = x at *
  have HS3 : Hid (St W3 a4 a6 eb sb qb r B m pl L) := HS.out.later HO.out HX.out.2.1
  have hg3 : grp k0 < 3 := grp_lt HM.out
  generalize hg : grp k0 = g at *
  have HG : Hid (grp k0 = g) := hg
  clear hg HB nq hnn
  obtain ⟨ps, c, b, cap, hmp, hgd, hrw, hv, hlk, hown, hBb⟩ := St.look1 (St.drew HS3.out) hg3 HP.out.2.2.1
  have HMem : Hid _ := And.intro hmp (And.intro hgd (And.intro hrw (And.intro hv (And.intro hown hBb))))
  have x0 := HX.out.1.cell 0 _ rfl
  have x1 := HX.out.1.cell 1 _ rfl
  have x2 := HX.out.1.cell 2 _ rfl
  have x3 := HX.out.1.cell 3 _ rfl
  obtain ⟨cr, hcr, hc164⟩ := HS3.out.rib
  have c164 := hcr.cell 164 _ hc164
  clear hown hcr hc164 hmp hgd hrw hv hBb
  go_region
  have HX3 : Hid (Blk W3.drew x _ 43 ∧ Below W.heap.size W W3.drew ∧ W.heap.size ≤ x) := ⟨HX.out.1.drew, HX.out.2.1.drew, HX.out.2.2⟩
  have HS4 : Hid (St W3.drew a4 a6 eb sb qb r B m pl L) := St.drew HS3.out
  clear x0 x1 x2 x3 c164 hlk HX HS3
  generalize W3.drew = W4 at *
  -- last, and the two stores
  have hlast : W4.cell? ⟨b, n, none⟩ = some (rp sb ((L g).getLastD 0)) := by
    rw [HMem.out.2.2.2.2.1.cellAt n (by omega), List.getElem?_map]
    have e : n = (L g).length - 1 := by have := HP.out.2.2.1; omega
    rw [e, last_at (by have := HP.out.2.2.1; omega)]
    rfl
  have hp0 : W4.cell? ⟨b, p, none⟩ = some (rp sb i) := by
    rw [HMem.out.2.2.2.2.1.cellAt p (by have := HP.out.2.2.2; omega), List.getElem?_map, HP.out.2.1]
    rfl
  have hlt3 : (L g).getLastD 0 < 3 := by
    have hla := last_at (l := L g) (by have := HP.out.2.2.1; omega)
    exact (HA.out.back _ _ _ hla).1
  generalize hll : (L g).getLastD 0 = lst at *
  have HLst : Hid ((L g).getLastD 0 = lst) := hll
  clear hll
  rw [rp_run] at hlast hp0
  have fb0 := HMem.out.2.2.2.2.1.frozenAt p
  have fb1 := HMem.out.2.2.2.2.1.frozenAt n
  obtain ⟨cs4, hb4, hR4⟩ := HS4.out.rs
  have c14 := hb4.cell (i * 19 + 14) _ (hR4.2 i hi).2
  have d14 := hb4.cell (lst * 19 + 14) _ (hR4.2 lst hlt3).2
  have f14 := hb4.frozen (i * 19 + 14)
  have g14 := hb4.frozen (lst * 19 + 14)
  rw [HP.out.1] at c14
  clear hb4 hR4
  have nbs : ¬ b = sb := by have := HMem.out.2.2.2.2.2; have h1 := HO.out.sr; have h2 := HO.out.rq; have h3 := HO.out.qB; omega
  have nsb : ¬ sb = b := fun e => nbs e.symm
  have hw1 : IntKind.i64.wrap (n : Int) = (n : Int) := by
    have := HA.out.len g
    have h2 := HP.out.2.2.1
    exact wrap3 n (by omega)
  have hpn : (p : Int) < (n : Int) + 1 := by have := HP.out.2.2.2; omega
  have hcapn : (n : Int) ≤ (cap : Int) := by
    rcases HMem.out.2.2.2.2.1.2 with ⟨q, _⟩ | ⟨b2, cap2, cur, q1, q2, q3, q4, _⟩
    · cases q
    · simp at q1; omega
  go_wp2
  go_region
  have HM5 : Hid (Mid W4 ((W4.setCell ⟨b, p, none⟩ (.pointer (some ⟨sb, lst * 19, none⟩))).setCell ⟨sb, lst * 19 + 14, none⟩ (.int .i64 (p : Int))).drew eb sb B b n cap m (up pl lst (p : Int)) (((L g).map (rp sb)).set p (rp sb lst))) :=
    Mid.first HS4.out HO.out HMem.out.2.2.2.2.2 hlt3 HMem.out.2.2.2.2.1 (rp sb lst)
  clear hlast hp0 fb0 fb1 c14 d14 f14 g14
  generalize ((W4.setCell ⟨b, p, none⟩ (.pointer (some ⟨sb, lst * 19, none⟩))).setCell ⟨sb, lst * 19 + 14, none⟩ (.int .i64 (p : Int))).drew = W5 at *
  obtain ⟨u, hu⟩ : ∃ u, W5.cell? ⟨b, n, none⟩ = some u := by
    have hl := HM5.out.own.1
    rw [HM5.out.own.cellAt n (by omega), List.getElem?_eq_getElem (by rw [hl]; omega)]
    exact ⟨_, rfl⟩
  have fu := HM5.out.own.frozenAt n
  by_cases hn0 : n = 0
  · subst hn0
    go_wp2
    have HM6 : Hid (Mid W4 (W5.setCell ⟨b, 0, none⟩ (.pointer none)) eb sb B b 0 cap m (up pl lst (p : Int)) ((((L g).map (rp sb)).set p (rp sb ((L g).getLastD 0))).set 0 (.pointer none))) := by rw [HLst.out]; exact HM5.out.next nsb _
    clear hu fu HM5
    generalize (W5.setCell ⟨b, 0, none⟩ (.pointer none)) = W6 at *
    obtain ⟨k164, kx, kdel, kupd, kst0, kst1⟩ := rem_ready HS4.out HO.out HMem.out.1 HMem.out.2.1 HMem.out.2.2.1 hg3 HMem.out.2.2.2.1 HMem.out.2.2.2.2.2 HP.out.2.2.1 HP.out.2.2.2 HX3.out.1 (Nat.le_trans HS.out.bB HX3.out.2.2) HM6.out
    have x0 := kx.cell 0 _ rfl
    have x1 := kx.cell 1 _ rfl
    have x2 := kx.cell 2 _ rfl
    have x3 := kx.cell 3 _ rfl
    have HK : Hid _ := kst0 rfl
    clear kx kst0 kst1
    go_region
    obtain ⟨hS7, hF7⟩ := HK.out
    have HS7 : Hid _ := hS7
    have HF7 : Hid _ := (Frm.of (HX3.out.2.1.mono HS.out.bB)).trans hF7
    clear hS7 hF7 HK kdel kupd k164 x0 x1 x2 x3 HM6 HX3 HMem
    generalize (ChangeMaps.setBlock W6.drew r _) = W7 at *
    obtain ⟨cs7, hb7, hR7⟩ := HS7.out.rs
    have c10 := hb7.cell (i * 19 + 10) _ (hR7.2 i hi).1
    have f10 := hb7.frozen (i * 19 + 10)
    have c14 := hb7.cell (i * 19 + 14) _ (hR7.2 i hi).2
    have f14 := hb7.frozen (i * 19 + 14)
    clear hb7 hR7
    have hnn := neq51_nil
    go_wp2
    refine bodyPost_end (v := .tuple #[]) (by simp [results, Ybad.results7]) rfl ⟨rfl, ⟨_, _, (HS7.out.set HO.out (i * 19 + 14) _ m _ (fun cs hR => hR.place hi (-1))).set HO.out (i * 19 + 10) _ (up m i 4) _ (fun cs hR => by have := hR.via hi 4; rwa [vp_none] at this), ?_⟩, (HF7.out.set _ _).set _ _⟩
    have hfin := HA.out.rem hi (by rw [HKI.out]; exact HM.out) HP.out.1
    rw [HKI.out, HG.out, HLst.out] at hfin
    exact hfin
  · have hn1 : ¬ (n : Int) = 0 := by omega
    go_wp2
    have HM6 : Hid (Mid W4 (W5.setCell ⟨b, n, none⟩ (.pointer none)) eb sb B b n cap m (up pl lst (p : Int)) ((((L g).map (rp sb)).set p (rp sb ((L g).getLastD 0))).set n (.pointer none))) := by rw [HLst.out]; exact HM5.out.next nsb _
    clear hu fu HM5
    generalize (W5.setCell ⟨b, n, none⟩ (.pointer none)) = W6 at *
    obtain ⟨k164, kx, kdel, kupd, kst0, kst1⟩ := rem_ready HS4.out HO.out HMem.out.1 HMem.out.2.1 HMem.out.2.2.1 hg3 HMem.out.2.2.2.1 HMem.out.2.2.2.2.2 HP.out.2.2.1 HP.out.2.2.2 HX3.out.1 (Nat.le_trans HS.out.bB HX3.out.2.2) HM6.out
    have x0 := kx.cell 0 _ rfl
    have x1 := kx.cell 1 _ rfl
    have x2 := kx.cell 2 _ rfl
    have x3 := kx.cell 3 _ rfl
    have HK : Hid _ := kst1 hn0
    clear kx kst0 kst1
    go_region
    obtain ⟨hS7, hF7⟩ := HK.out
    have HS7 : Hid _ := hS7
    have HF7 : Hid _ := (Frm.of (HX3.out.2.1.mono HS.out.bB)).trans hF7
    clear hS7 hF7 HK kdel kupd k164 x0 x1 x2 x3 HM6 HX3 HMem
    generalize (ChangeMaps.setBlock W6.drew r _) = W7 at *
    obtain ⟨cs7, hb7, hR7⟩ := HS7.out.rs
    have c10 := hb7.cell (i * 19 + 10) _ (hR7.2 i hi).1
    have f10 := hb7.frozen (i * 19 + 10)
    have c14 := hb7.cell (i * 19 + 14) _ (hR7.2 i hi).2
    have f14 := hb7.frozen (i * 19 + 14)
    clear hb7 hR7
    have hnn := neq51_nil
    go_wp2
    refine bodyPost_end (v := .tuple #[]) (by simp [results, Ybad.results7]) rfl ⟨rfl, ⟨_, _, (HS7.out.set HO.out (i * 19 + 14) _ m _ (fun cs hR => hR.place hi (-1))).set HO.out (i * 19 + 10) _ (up m i 4) _ (fun cs hR => by have := hR.via hi 4; rwa [vp_none] at this), ?_⟩, (HF7.out.set _ _).set _ _⟩
    have hfin := HA.out.rem hi (by rw [HKI.out]; exact HM.out) HP.out.1
    rw [HKI.out, HG.out, HLst.out] at hfin
    exact hfin
end
end Go.Proofs.YbulkbnzmDoor.Dep3
