import Derived.Test.YbulkbnzmDoorDep4
namespace Go.Proofs.YbulkbnzmDoor.Dep5
open Go.RowKit MapLaw Base Net Net2 Net3 Net4 Plain Mem Dep1 Ins Dep2 Rem Dep3 Dep4
set_option linter.unusedVariables false
set_option maxRecDepth 100000

section
variable {W : World} {a4 a6 : Addr} {eb sb qb r B : Nat} {m : Nat → Nat} {pl : Nat → Int} {L : Nat → List Nat}

/-- (*RIB).depend -/
theorem dep_any (h : St W a4 a6 eb sb qb r B m pl L) (hA : Abs m pl L) (o : Ord a4 a6 eb sb qb r B) {i k : Nat} (hi : i < 3) (hk : k ≤ 4) :
    Calls Ybad.prog 7 #[.pointer (some ⟨qb, 0, none⟩), .pointer (some ⟨sb, i * 19, none⟩), .pointer (vp eb k)] W (Post W a4 a6 eb sb qb r B (up m i k)) := by
  have hmi := hA.le i
  by_cases hk4 : k = 4
  · subst hk4
    rw [vp_none]
    by_cases hm : m i = 4
    · exact dep_nn h hA o hi hm
    · exact dep_rem h hA o hi (by omega)
  · have hk' : k < 4 := by omega
    rw [vp_some hk']
    by_cases hm : m i = 4
    · exact dep_ins h hA o hi hm hk'
    · by_cases hg : grp k = grp (m i)
      · exact dep_same h hA o hi (by omega) hk' hg
      · exact dep_move h hA o hi (by omega) hk' hg

/-- the model's number of resolution i -/
def mv (m : Nat → Nat) (i : Nat) : Int := if m i < 4 then (m i : Int) else -1
def mC (m : Nat → Nat) : Array Value := #[.int .i64 (mv m 0), .int .i64 (mv m 1), .int .i64 (mv m 2)]
def kC (a4 a6 : Addr) : Array Value := #[.int .u64 (Hi 0), .int .u64 (Lo 0), .pointer (some (Pt a4 a6 0)), .int .u8 (Bt 0), .int .u64 (Hi 1), .int .u64 (Lo 1), .pointer (some (Pt a4 a6 1)), .int .u8 (Bt 1), .int .u64 (Hi 2), .int .u64 (Lo 2), .pointer (some (Pt a4 a6 2)), .int .u8 (Bt 2)]

theorem mC_get (m : Nat → Nat) {i : Nat} (hi : i < 3) : (mC m)[i]? = some (.int .i64 (mv m i)) := by
  match i, hi with
  | 0, _ => rfl
  | 1, _ => rfl
  | 2, _ => rfl
theorem kC_get (a4 a6 : Addr) {g : Nat} (hg : g < 3) : (kC a4 a6)[g * 4]? = some (.int .u64 (Hi g)) ∧ (kC a4 a6)[g * 4 + 1]? = some (.int .u64 (Lo g)) ∧ (kC a4 a6)[g * 4 + 2]? = some (.pointer (some (Pt a4 a6 g))) ∧ (kC a4 a6)[g * 4 + 3]? = some (.int .u8 (Bt g)) := by
  match g, hg with
  | 0, _ => exact ⟨rfl, rfl, rfl, rfl⟩
  | 1, _ => exact ⟨rfl, rfl, rfl, rfl⟩
  | 2, _ => exact ⟨rfl, rfl, rfl, rfl⟩

theorem group_any (k : Nat) (hk : k < 4) (w : World) : Calls Ybad.prog 14 #[.int .i64 (k : Int)] w fun e w' => e = .returned (.int .i64 (grp k : Int)) ∧ w' = w := by
  match k, hk with
  | 0, _ => go_enter Ybad.func14, Ybad.ntmps14; go_wp2; go_ret; exact ⟨rfl, rfl⟩
  | 1, _ => go_enter Ybad.func14, Ybad.ntmps14; go_wp2; go_ret; exact ⟨rfl, rfl⟩
  | 2, _ => go_enter Ybad.func14, Ybad.ntmps14; go_wp2; go_ret; exact ⟨rfl, rfl⟩
  | 3, _ => go_enter Ybad.func14, Ybad.ntmps14; go_wp2; go_ret; exact ⟨rfl, rfl⟩

theorem group_to (k g : Nat) (hk : k < 4) (hg : grp k = g) (w : World) : Calls Ybad.prog 14 #[.int .i64 (k : Int)] w fun e w' => e = .returned (.int .i64 (g : Int)) ∧ w' = w := by subst hg; exact group_any k hk w

theorem neq51_same (W : World) (a : Addr) : (binOp .neq 51 (.pointer (some a)) (.pointer (some a))).run Ybad.prog W = .ok (.bool false) W := by
  obtain ⟨d, hd, hd2⟩ := Option.map_eq_some_iff.1 (show (Ybad.prog.info? 33).map (fun i => i.size) = some 38 by kernel_rfl)
  have h : ∀ e : Nat, (Op.equalIn (e + 1) 51 (.pointer (some a)) (.pointer (some a))).run Ybad.prog W = .ok true W := fun e => by
    simp [Op.equalIn, run_underlying Ybad.underlying51, sizeOf, typeInfo, hd, run_sameAddr_same]
  have h1 : (Op.equal 51 (.pointer (some a)) (.pointer (some a))).run Ybad.prog W = .ok true W := h 9999
  simp only [binOp]
  simp [h1]
theorem neq100_same (W : World) (a : Addr) : (binOp .neq 100 (.pointer (some a)) (.pointer (some a))).run Ybad.prog W = .ok (.bool false) W := by
  obtain ⟨d, hd, hd2⟩ := Option.map_eq_some_iff.1 (show (Ybad.prog.info? 54).map (fun i => i.size) = some 19 by kernel_rfl)
  have h : ∀ e : Nat, (Op.equalIn (e + 1) 100 (.pointer (some a)) (.pointer (some a))).run Ybad.prog W = .ok true W := fun e => by
    simp [Op.equalIn, run_underlying Ybad.underlying100, sizeOf, typeInfo, hd, run_sameAddr_same]
  have h1 : (Op.equal 100 (.pointer (some a)) (.pointer (some a))).run Ybad.prog W = .ok true W := h 9999
  simp only [binOp]
  simp [h1]

/-- what holds all along the check -/
structure CS (W wr : World) (a4 a6 : Addr) (eb sb qb r B xm xk : Nat) (m : Nat → Nat) (pl : Nat → Int) (L : Nat → List Nat) : Prop where
  st : St wr a4 a6 eb sb qb r B m pl L
  bm : Blk wr xm (mC m) 56
  bk : Blk wr xk (kC a4 a6) 48
  bel : Below W.heap.size W wr
theorem CS.drewN {wr : World} {xm xk : Nat} (h : CS W wr a4 a6 eb sb qb r B xm xk m pl L) (o : Ord a4 a6 eb sb qb r B) (n : Nat) : CS W (wr.drewN n) a4 a6 eb sb qb r B xm xk m pl L :=
  ⟨h.st.later o (bDrewN (Below.refl _ _) n), h.bm, h.bk, bDrewN h.bel n⟩
theorem CS.drew {wr : World} {xm xk : Nat} (h : CS W wr a4 a6 eb sb qb r B xm xk m pl L) : CS W wr.drew a4 a6 eb sb qb r B xm xk m pl L :=
  ⟨St.drew h.st, h.bm, h.bk, h.bel.drew⟩

theorem usedN_le (L : Nat → List Nat) (n : Nat) : usedN L n ≤ n := by unfold usedN; exact Nat.le_trans (List.length_filter_le _ _) (by simp)
theorem cnt_le (m : Nat → Nat) (g n : Nat) : Plain.cnt m g n ≤ n := by unfold Plain.cnt; exact Nat.le_trans (List.length_filter_le _ _) (by simp)

set_option maxHeartbeats 6400000 in
theorem check_any (h : St W a4 a6 eb sb qb r B m pl L) (hA : Abs m pl L) (o : Ord a4 a6 eb sb qb r B) :
    Calls Ybad.prog 8 #[.pointer (some ⟨qb, 0, none⟩), .pointer (some ⟨sb, 0, none⟩), .pointer (some ⟨eb, 0, none⟩), .agg #[.int .i64 (mv m 0), .int .i64 (mv m 1), .int .i64 (mv m 2)],
      .agg #[.int .u64 (Hi 0), .int .u64 (Lo 0), .pointer (some (Pt a4 a6 0)), .int .u8 (Bt 0), .int .u64 (Hi 1), .int .u64 (Lo 1), .pointer (some (Pt a4 a6 1)), .int .u8 (Bt 1), .int .u64 (Hi 2), .int .u64 (Lo 2), .pointer (some (Pt a4 a6 2)), .int .u8 (Bt 2)]] W
      fun e w' => e = .returned (.bool true) ∧ St w' a4 a6 eb sb qb r B m pl L ∧ Below W.heap.size W w' := by
  have T := Blk.two W (mC m) (kC a4 a6) 56 48
  have HC0 : Hid (CS W ((W.alloc (.cells (mC m) 56)).alloc (.cells (kC a4 a6) 48)) a4 a6 eb sb qb r B W.heap.size (W.heap.size + 1) m pl L) := ⟨h.later o T.2.2, T.1, T.2.1, T.2.2⟩
  unfold mC kC at HC0
  have HO : Hid (Ord a4 a6 eb sb qb r B) := o
  have HA : Hid (Abs m pl L) := hA
  clear T h hA o
  go_enter Ybad.func8, Ybad.ntmps8
  go_wp2
  generalize (World.alloc _ (.cells #[.int .u64 (Hi 0), .int .u64 (Lo 0), .pointer (some (Pt a4 a6 0)), .int .u8 (Bt 0), .int .u64 (Hi 1), .int .u64 (Lo 1), .pointer (some (Pt a4 a6 1)), .int .u8 (Bt 1), .int .u64 (Hi 2), .int .u64 (Lo 2), .pointer (some (Pt a4 a6 2)), .int .u8 (Bt 2)] 48)) = V at *
  generalize W.heap.size + 1 = xk at *
  generalize hxm : W.heap.size = xm at *
  have HXM : Hid (W.heap.size = xm) := hxm
  clear hxm
  have HC : Hid (CS W V a4 a6 eb sb qb r B xm xk m pl L) := by
    have := HC0.out
    rwa [← HXM.out] at this ⊢
  clear HC0
  go_loopw [11, 12] (fun u g wr => ∃ G : Nat, G ≤ 3 ∧ g = .int .i64 G ∧ u = .int .i64 (usedN L G) ∧ CS W wr a4 a6 eb sb qb r B xm xk m pl L) (fun _ g _ => 3 - (intOf g).toNat)
  case atStart => exact ⟨0, by omega, rfl, rfl, HC.out⟩
  case round =>
    clear HC
    obtain ⟨G, hG, rfl, rfl, hcs⟩ := hrel
    have HC : Hid (CS W wr a4 a6 eb sb qb r B xm xk m pl L) := hcs
    clear hcs
    have hul := usedN_le L G
    by_cases hG3 : G < 3
    · have hG3' : (G : Int) < 3 := by omega
      have k0 := HC.out.bk.cell _ _ (kC_get a4 a6 hG3).1
      have k1 := HC.out.bk.cell _ _ (kC_get a4 a6 hG3).2.1
      have k2 := HC.out.bk.cell _ _ (kC_get a4 a6 hG3).2.2.1
      have k3 := HC.out.bk.cell _ _ (kC_get a4 a6 hG3).2.2.2
      obtain ⟨cr, hcr, hc164⟩ := HC.out.st.rib
      have c164 := hcr.cell 164 _ hc164
      obtain ⟨oa, cap, hlk, hown⟩ := St.look (St.drew HC.out.st) hG3
      have HOwn : Hid (wr.ownsRow B 100 1 (.slice oa (L G).length cap) (L G).length ((L G).map (rp sb))) := hown
      clear hown hcr hc164
      go_wp2
      go_region
      have HC1 : Hid (CS W wr.drew a4 a6 eb sb qb r B xm xk m pl L) := HC.out.drew
      have HOwn1 : Hid (wr.drew.ownsRow B 100 1 (.slice oa (L G).length cap) (L G).length ((L G).map (rp sb))) := HOwn.out
      clear k0 k1 k2 k3 c164 hlk HC HOwn
      generalize wr.drew = w1 at *
      go_wp2
      go_loopw [14, 15] (fun cv iv wz => ∃ I : Nat, I ≤ 3 ∧ iv = .int .i64 I ∧ cv = .int .i64 (Plain.cnt m G I) ∧ CS W wz a4 a6 eb sb qb r B xm xk m pl L ∧ wz.ownsRow B 100 1 (.slice oa (L G).length cap) (L G).length ((L G).map (rp sb))) (fun _ iv _ => 3 - (intOf iv).toNat)
      case atStart => exact ⟨0, by omega, rfl, rfl, HC1.out, HOwn1.out⟩
      case round =>
        clear HC1 HOwn1
        obtain ⟨I, hI, rfl, rfl, hcs, hown⟩ := hrel
        have HC : Hid (CS W wr a4 a6 eb sb qb r B xm xk m pl L) := hcs
        have HOwn : Hid (wr.ownsRow B 100 1 (.slice oa (L G).length cap) (L G).length ((L G).map (rp sb))) := hown
        clear hcs hown
        have hcl := cnt_le m G I
        have hcs := cnt_succ m G I
        by_cases hI3 : I < 3
        · have hI3' : (I : Int) < 3 := by omega
          have m0 := HC.out.bm.cell _ _ (mC_get m hI3)
          by_cases hmI : m I < 4
          · have hmv : mv m I = (m I : Int) := by simp [mv, hmI]
            rw [hmv] at m0
            have h0 : (0 : Int) ≤ (m I : Int) := by omega
            by_cases hgq : grp (m I) = G
            · have hgq' : (grp (m I) : Int) = (G : Int) := by omega
              rw [if_pos (by simp [inG, hmI, hgq])] at hcs
              obtain ⟨j, hj, hjL⟩ := HA.out.on I hI3 hmI
              rw [hgq] at hjL
              have hjl := (List.getElem?_eq_some_iff.1 hjL).1
              obtain ⟨cs4, hb4, hR4⟩ := HC.out.st.rs
              have c14 := hb4.cell (I * 19 + 14) _ (hR4.2 I hI3).2
              rw [hj] at c14
              obtain ⟨b, cap2, e2, _, _⟩ := HOwn.out.form (by omega)
              simp only [Value.slice.injEq] at e2
              obtain ⟨rfl, _, rfl⟩ := e2
              have cj : wr.cell? ⟨b, j, none⟩ = some (.pointer (some ⟨sb, I * 19, none⟩)) := by
                rw [HOwn.out.cellAt j (by omega), List.getElem?_map, hjL]; rfl
              have hjl' : (j : Int) < ((L G).length : Int) := by omega
              have hd1 : decide ((j : Int) < 0) = false := decide_eq_false (by omega)
              have hd2 : decide (((L G).length : Int) ≤ (j : Int)) = false := decide_eq_false (by omega)
              have hd3 : decide ((L G).length ≤ j) = false := decide_eq_false (by omega)
              have hsame := neq100_same
              have HCnt : Hid (Plain.cnt m G (I + 1) = Plain.cnt m G I + 1) := hcs
              clear hb4 hR4 hcs hjL hjl hj
              generalize Plain.cnt m G I = cv at *
              have HmI : Hid (m I < 4) := hmI
              have HgI : Hid (grp (m I) = G) := hgq
              clear hmI hgq hmv
              go_wp2_with (go_at_call 14; refine (group_to (m I) G HmI.out HgI.out _).mono ?_; rintro e w' ⟨rfl, rfl⟩)
              go_quiet (fail)
              go_wp2
              go_roundw
              case rel => first | exact ⟨I + 1, by omega, by go_num, by rw [HCnt.out]; go_num, CS.drewN HC.out HO.out _, HOwn.out⟩ | ((repeat apply Exists.intro); exact ⟨⟨I + 1, by omega, by go_num, by rw [HCnt.out]; go_num, CS.drewN HC.out HO.out _, HOwn.out⟩, rfl⟩)
              case measure => simp [intOf]; omega
            · have hgq' : ¬ (grp (m I) : Int) = (G : Int) := by omega
              rw [if_neg (by simp [inG, hgq])] at hcs
              have HCnt : Hid (Plain.cnt m G (I + 1) = Plain.cnt m G I + 0) := hcs
              have HmI : Hid (m I < 4) := hmI
              clear hcs hmI hgq hmv
              go_wp2_with (go_at_call 14; refine (group_any (m I) HmI.out _).mono ?_; rintro e w' ⟨rfl, rfl⟩)
              go_roundw
              case rel => first | exact ⟨I + 1, by omega, by go_num, by rw [HCnt.out]; rfl, HC.out, HOwn.out⟩ | ((repeat apply Exists.intro); exact ⟨⟨I + 1, by omega, by go_num, by rw [HCnt.out]; rfl, HC.out, HOwn.out⟩, rfl⟩)
              case measure => simp [intOf]; omega
          · have hmv : mv m I = -1 := by simp [mv, hmI]
            rw [hmv] at m0
            rw [if_neg (by simp [inG, hmI])] at hcs
            have HCnt : Hid (Plain.cnt m G (I + 1) = Plain.cnt m G I + 0) := hcs
            clear hcs hmI hmv
            go_wp2
            go_roundw
            case rel => first | exact ⟨I + 1, by omega, by go_num, by rw [HCnt.out]; rfl, HC.out, HOwn.out⟩ | ((repeat apply Exists.intro); exact ⟨⟨I + 1, by omega, by go_num, by rw [HCnt.out]; rfl, HC.out, HOwn.out⟩, rfl⟩)
            case measure => simp [intOf]; omega
        · obtain rfl : I = 3 := by omega
          clear hcs
          rw [HA.out.cnt G] at *
          have hus := usedN_succ L G
          have hlen := HA.out.len G
          by_cases hL0 : 0 < (L G).length
          · rw [if_pos hL0] at hus
            have HUs : Hid _ := hus
            have hL0' : (0 : Int) < ((L G).length : Int) := by omega
            clear hus
            generalize hLn : (L G).length = ln at *
            go_wp2
            go_roundw
            case rel => first | exact ⟨G + 1, by omega, by go_num, by rw [HUs.out]; go_num, HC.out⟩ | ((repeat apply Exists.intro); exact ⟨⟨G + 1, by omega, by go_num, by rw [HUs.out]; go_num, HC.out⟩, rfl⟩)
            case measure => simp [intOf]; omega
          · rw [if_neg hL0] at hus
            have HUs : Hid _ := hus
            have hL0' : (L G).length = 0 := by omega
            clear hus
            rw [hL0'] at *
            go_wp2
            go_roundw
            case rel => first | exact ⟨G + 1, by omega, by go_num, by rw [HUs.out]; rfl, HC.out⟩ | ((repeat apply Exists.intro); exact ⟨⟨G + 1, by omega, by go_num, by rw [HUs.out]; rfl, HC.out⟩, rfl⟩)
            case measure => simp [intOf]; omega
    · obtain rfl : G = 3 := by omega
      obtain ⟨cr, hcr, hc164⟩ := HC.out.st.rib
      have c164 := hcr.cell 164 _ hc164
      obtain ⟨ps, c, h1, h2, h3⟩ := HC.out.st.mp
      have hlen := run_len (P := Ybad.prog) (W := wr) (K := KK a4 a6) (ty := 3) Ybad.underlying58 r ps c h1
      have hps : ps.length = usedN L 3 := h2.length fun g hg => (h3.1 g hg).2
      rw [hps] at hlen
      clear h1 h2 h3 hps hcr hc164
      generalize usedN L 3 = un at *
      go_wp2
      go_loopw [18] (fun iv wz => ∃ I : Nat, I ≤ 3 ∧ iv = .int .i64 I ∧ CS W wz a4 a6 eb sb qb r B xm xk m pl L) (fun iv _ => 3 - (intOf iv).toNat)
      case atStart => exact ⟨0, by omega, rfl, HC.out⟩
      case round =>
        clear HC hlen c164
        obtain ⟨I, hI, rfl, hcs⟩ := hrel
        have HC : Hid (CS W wr a4 a6 eb sb qb r B xm xk m pl L) := hcs
        clear hcs
        by_cases hI3 : I < 3
        · have hI3' : (I : Int) < 3 := by omega
          have m0 := HC.out.bm.cell _ _ (mC_get m hI3)
          obtain ⟨cs4, hb4, hR4⟩ := HC.out.st.rs
          have c10 := hb4.cell (I * 19 + 10) _ (hR4.2 I hI3).1
          have c14 := hb4.cell (I * 19 + 14) _ (hR4.2 I hI3).2
          clear hb4 hR4
          by_cases hmI : m I < 4
          · have hmv : mv m I = (m I : Int) := by simp [mv, hmI]
            rw [hmv] at m0
            rw [vp_some hmI] at c10
            have h0 : ¬ (m I : Int) < 0 := by omega
            have h4 : (m I : Int) < 4 := by omega
            have hsame := neq51_same
            generalize m I = q at *
            go_wp2
            go_quiet (fail)
            go_wp2
            go_roundw
            case rel => first | exact ⟨I + 1, by omega, by go_num, CS.drewN HC.out HO.out _⟩ | ((repeat apply Exists.intro); exact ⟨⟨I + 1, by omega, by go_num, CS.drewN HC.out HO.out _⟩, rfl⟩)
            case measure => simp [intOf]; omega
          · have hmv : mv m I = -1 := by simp [mv, hmI]
            rw [hmv] at m0
            have hm4 : m I = 4 := by have := HA.out.le I; omega
            rw [hm4, vp_none] at c10
            rw [HA.out.off I hI3 hm4] at c14
            have hnn := neq51_nil
            clear hmI hmv hm4
            go_wp2
            go_roundw
            case rel => first | exact ⟨I + 1, by omega, by go_num, HC.out⟩ | ((repeat apply Exists.intro); exact ⟨⟨I + 1, by omega, by go_num, HC.out⟩, rfl⟩)
            case measure => simp [intOf]; omega
        · obtain rfl : I = 3 := by omega
          go_wp2
          go_ret
          exact ⟨rfl, HC.out.st, HC.out.bel⟩
end
end Go.Proofs.YbulkbnzmDoor.Dep5
