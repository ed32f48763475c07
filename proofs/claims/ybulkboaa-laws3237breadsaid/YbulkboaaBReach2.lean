import Derived.Test.YbulkboaaBReach
namespace Go.Proofs.Ybulkboaa.BReach2
open Go.RowKit MapLaw CBase BPlain BBreach BMem BLink BFollow BReach
set_option linter.unusedVariables false
set_option maxRecDepth 100000

/-- the pointer to a node, or nil -/
def op (na : Nat → Nat) (tn : Option Nat) : Value := .pointer (tn.map fun n => ⟨na n, 0, none⟩)

/-- the stack, its last node taken off -/
theorem Gr.pop {W : World} {F : Nat → Prop} {na : Nat → Nat} {N : Nat} {rows : Rid → Value} {vals : Rid → List Value} {inn st : Nat → Nat} {seen aim : Nat → Bool} {oa : Option Addr} {m cap : Nat} {S : List Nat} {u : Nat}
    (h : Gr W F na N (upr rows rs (.slice oa (m + 1) cap)) (upr vals rs ((S ++ [u]).map (np na))) inn st seen aim) (hm : m = S.length) : Gr W F na N (upr rows rs (.slice oa m cap)) (upr vals rs (S.map (np na))) inn st seen aim := by
  have h1 := h.sep.own rs
  rw [upr_same, upr_same] at h1
  have hl : ((S ++ [u]).map (np na)).length = m + 1 := by simp [hm]
  rw [hl] at h1
  have h2 := own_take (m := m) h1 (by omega)
  have h3 : ((S ++ [u]).map (np na)).take m = S.map (np na) := by subst hm; simp
  rw [h3] at h2
  have h4 : m = (S.map (np na)).length := by simp [hm]
  rw [h4] at h2
  obtain ⟨q1, q2⟩ := h.sep.turn (W' := W) rs h2 (Nat.le_refl _) (fun _ _ _ => rfl) (fun g hg => .inl (by rw [upr_same, ← hg]; cases oa <;> rfl))
  have q3 := h.turn (r := rs) (by simp) q1 q2
  rw [upr_upr, upr_upr, ← h4] at q3
  exact q3

/-- what reaches answers and leaves -/
structure RPost (W : World) (F : Nat → Prop) (na : Nat → Nat) (N : Nat) (rows : Rid → Value) (vals : Rid → List Value) (inn st : Nat → Nat) (aim : Nat → Bool) (E : List (Nat × Nat)) (A : List Nat) (tn : Option Nat) (p : Nat) (cs : Array Value) (e : Ending) (w' : World) : Prop where
  ans : ∃ r, e = .returned (.bool r) ∧ (r = true ↔ (∃ v ∈ A, aim v = true) ∨ Hit E (fun x => aim x = true) (fun u => tn = some u ∨ u ∈ A))
  gr : ∃ seen', Gr w' F na N rows vals inn st seen' aim
  still : Still (fun b => Fx F na N b ∧ b ≠ p) W w'
  blk : ∃ v, Blk w' p (cs.setIfInBounds 6 v) 61

set_option maxHeartbeats 4000000 in
theorem reaches_any {W : World} {F : Nat → Prop} {na : Nat → Nat} {N : Nat} {rows : Rid → Value} {vals : Rid → List Value} {inn st : Nat → Nat} {aim : Nat → Bool} (h : Gr W F na N rows vals inn st (fun _ => false) aim)
    (hrs : rows rs = .slice none 0 0) (hvs : vals rs = []) (E : List (Nat × Nat)) (hE : ∀ i, i < N → vals (ro i) = (outs E i).map (np na)) (hEl : ∀ e ∈ E, e.2 < N) (hEn : E.length ≤ 50000)
    (A : List Nat) (hA : vals ra = A.map (np na)) (hAl : ∀ v ∈ A, v < N) (hAn : A.length ≤ 10) (tn : Option Nat) (htn : ∀ n, tn = some n → n < N) (hN : N ≤ 300)
    (p : Nat) (cs : Array Value) (hp : Fx F na N p) (hpb : Blk W p cs 61) (hc5 : cs[5]? = some (.int .u64 1)) (hc6 : cs[6]? = some (.slice none 0 0)) :
    Calls Yba.prog 25 #[.pointer (some ⟨p, 0, none⟩), op na tn, rows ra] W fun e w' => RPost W F na N rows vals inn st aim E A tn p cs e w' := by
  have H : Hid _ := h
  have HE : Hid (∀ i, i < N → vals (ro i) = (outs E i).map (np na)) := hE
  have HEl : Hid (∀ e ∈ E, e.2 < N) := hEl
  have HA : Hid (vals ra = A.map (np na)) := hA
  have HAl : Hid (∀ v ∈ A, v < N) := hAl
  have HT : Hid (∀ n, tn = some n → n < N) := htn
  have HP : Hid (Fx F na N p) := hp
  have HPB : Hid (Blk W p cs 61) := hpb
  have HC : Hid (cs[5]? = some (.int .u64 1) ∧ cs[6]? = some (.slice none 0 0)) := ⟨hc5, hc6⟩
  have HRS : Hid (rows rs = .slice none 0 0 ∧ vals rs = []) := ⟨hrs, hvs⟩
  have c5 := hpb.cell 5 _ hc5
  have c6 := hpb.cell 6 _ hc6
  clear h hE hEl hA hAl htn hp hpb hc5 hc6 hrs hvs
  have HB : Hid (tn = none ∨ ∃ n, tn = some n ∧ n < N) := by
    cases tn with
    | none => exact .inl rfl
    | some n => exact .inr ⟨n, rfl, HT.out n rfl⟩
  rcases HB.out with rfl | ⟨n, rfl, hn⟩
  case inl =>
    simp only [op, Option.map_none]
    go_enter Yba.func25, Yba.ntmps25
    go_upto_region 5 with fail
    obtain ⟨W1, sv1, S1, seen1, src, eW, esv, eS, esn, esrc⟩ : ∃ (W1 : World) (sv1 : Value) (S1 : List Nat) (seen1 : Nat → Bool) (src : Nat → Prop), W1 = W ∧ sv1 = .slice none 0 0 ∧ S1 = [] ∧ seen1 = (fun _ => false) ∧ src = (fun u => (none : Option Nat) = some u ∨ u ∈ A) := ⟨_, _, _, _, _, rfl, rfl, rfl, rfl, rfl⟩
    have HB1 : Hid (Gr W1 F na N (upr rows rs sv1) (upr vals rs (S1.map (np na))) inn st seen1 aim ∧ Still (Fx F na N) W W1 ∧ (∀ u, seen1 u = true ↔ u ∈ S1) ∧ (∀ u, src u ↔ (u ∈ S1 ∨ u ∈ A)) ∧ unseen N seen1 + S1.length ≤ 1000 ∧ ∀ u ∈ S1, u < N) := by
      subst eW esv eS esn esrc
      refine ⟨?_, Still.refl _ _, by simp, by simp, ?_, by simp⟩
      · have e1 := upr_id rows rs
        have e2 := upr_id vals rs
        rw [HRS.out.1] at e1
        rw [HRS.out.2] at e2
        rw [List.map_nil, e1, e2]
        exact H.out
      · have := unseen_le N (fun _ => false)
        simp
        omega
    have HSrc : Hid (src = (fun u => (none : Option Nat) = some u ∨ u ∈ A)) := esrc
    rw [← esv, ← eW]
    clear eW esv eS esn esrc c5 c6
    have hpc := HB1.out.2.1.block p HP.out
    have hf := follow_any HB1.out.1 p A S1 ra (by simp) (upr_same _ _ _) (by rw [upr_sa]; exact HA.out) HAl.out (by have := HB1.out.2.2.2.2.1; omega) (by omega) HP.out ((World.cell?_of_block hpc).trans (HPB.out.cell 5 _ HC.out.1))
    rw [upr_same, upr_sa] at hf
    have hsp := fol_spec N aim A seen1 S1 HAl.out
    have HF : Hid _ := hf
    have HSp : Hid _ := hsp
    clear hf hsp hpc
    generalize hr0 : fol aim A seen1 S1 = r0 at *
    clear hr0
    go_wp2_with (go_at_call 31; refine Calls.mono HF.out ?_; rintro e w2 ⟨v2, rfl, hG2, hS2⟩)
    clear HF
    have HG2 : Hid _ := hG2
    have HS2 : Hid _ := HB1.out.2.1.trans hS2
    clear hG2 hS2
    go_loopg [7, 8] (unseen N r0.1 + r0.2.1.length) (fun k sv fv wr => ∃ (S : List Nat) (sn : Nat → Bool) (fd : Bool), fv = .bool fd ∧ Gr wr F na N (upr rows rs sv) (upr vals rs (S.map (np na))) inn st sn aim ∧ Still (Fx F na N) W wr ∧ (∀ u ∈ S, u < N) ∧ unseen N sn + S.length = k ∧ k ≤ 1000 ∧ (fd = true → (∃ v ∈ A, aim v = true) ∨ Hit E (fun x => aim x = true) src) ∧ (fd = false → DInv E aim sn src S ∧ ∀ v ∈ A, aim v = false))
    case atStart =>
      have hB := HB1.out
      have hsp := HSp.out
      rw [upr_upr, upr_upr] at HG2
      refine ⟨r0.2.1, r0.1, r0.2.2, rfl, HG2.out, HS2.out, fun u hu => ?_, rfl, by rw [hsp.cnt]; exact hB.2.2.2.2.1, fun hfd => .inl (hsp.hit hfd), fun hfd => ⟨DInv.start (fun u => hB.2.2.2.1 u) hB.2.2.1 hsp hfd, fun v hv => (hsp.none hfd v hv).1⟩⟩
      rcases hsp.sub u hu with h1 | h1
      · exact hB.2.2.2.2.2 u h1
      · exact HAl.out u h1.2
    case round =>
      clear HG2 HS2 HB1 HSp
      obtain ⟨S, sn, fd, rfl, hG, hSt, hSN, hk, hk1, hfd1, hfd0⟩ := hrel
      have HG : Hid _ := hG
      have HS : Hid _ := hSt
      have HSN : Hid (∀ u ∈ S, u < N) := hSN
      have HK : Hid (unseen N sn + S.length = gk ∧ gk ≤ 1000) := ⟨hk, hk1⟩
      have HD1 : Hid (fd = true → (∃ v ∈ A, aim v = true) ∨ Hit E (fun x => aim x = true) src) := hfd1
      have HD0 : Hid (fd = false → DInv E aim sn src S ∧ ∀ v ∈ A, aim v = false) := hfd0
      clear hG hSt hSN hk hk1 hfd1 hfd0
      obtain ⟨oa, cap, hsv, hcap, hcell⟩ := row_view (HG.out.sep.own rs)
      rw [upr_same, upr_same, List.length_map] at hsv
      rw [upr_same, List.length_map] at hcap
      simp only [upr_same, List.length_map] at hcell
      subst hsv
      have HCell : Hid _ := hcell
      clear hcell
      by_cases hfd : fd = true
      · subst hfd
        have hans := HD1.out rfl
        rw [HSrc.out] at hans
        have HAns : Hid _ := hans
        clear hans
        by_cases hz : S.length = 0
        · obtain rfl : S = [] := List.eq_nil_of_length_eq_zero hz
          simp only [List.length_nil] at HG hcap ⊢
          clear hz HCell
          obtain ⟨w4, hcl, hsep4, hst4⟩ := clear_run HG.out.sep rs (by rw [upr_same]; intro x hx; obtain ⟨y, _, rfl⟩ := List.mem_map.1 hx; exact ⟨_, rfl⟩)
          rw [upr_same] at hcl
          have hG4 := HG.out.turn (r := rs) (by simp) hsep4 hst4.block
          have e1 := upr_id rows rs
          have e2 := upr_id vals rs
          rw [HRS.out.1] at e1
          rw [HRS.out.2] at e2
          rw [upr_upr, upr_upr, e1, e2] at hG4
          have hS4 := HS.out.trans (hst4.weak fun b hb => hb.1)
          have hpb4 : Blk w4 p cs 61 := (hS4.block p HP.out).trans HPB.out
          have k6 := hpb4.cell 6 _ HC.out.2
          have l6 := hpb4.frozen 6
          have HG4 : Hid _ := hG4
          have HS4 : Hid _ := hS4
          have HPB4 : Hid (Blk w4 p cs 61) := hpb4
          clear hG4 hS4 hpb4 e1 e2 hsep4 hst4
          cases oa
          all_goals
            go_wp2
            refine bodyPost_ret (v := .bool true) (by simp [results, Yba.results25, go_sem]) rfl ⟨⟨true, rfl, ⟨fun _ => HAns.out, fun _ => rfl⟩⟩, ⟨sn, HG4.out.other HP.out.1 HP.out.2 _⟩, (HS4.out.weak fun b hb => hb.1).set (fun q => q.2 rfl) _, ⟨_, HPB4.out.set 6 _⟩⟩
        · have hz' : (0 : Int) < ((S.length : Nat) : Int) := by omega
          have hz2 : 0 < S.length := by omega
          obtain ⟨w4, hcl, hsep4, hst4⟩ := clear_run HG.out.sep rs (by rw [upr_same]; intro x hx; obtain ⟨y, _, rfl⟩ := List.mem_map.1 hx; exact ⟨_, rfl⟩)
          rw [upr_same] at hcl
          have hG4 := HG.out.turn (r := rs) (by simp) hsep4 hst4.block
          have e1 := upr_id rows rs
          have e2 := upr_id vals rs
          rw [HRS.out.1] at e1
          rw [HRS.out.2] at e2
          rw [upr_upr, upr_upr, e1, e2] at hG4
          have hS4 := HS.out.trans (hst4.weak fun b hb => hb.1)
          have hpb4 : Blk w4 p cs 61 := (hS4.block p HP.out).trans HPB.out
          have k6 := hpb4.cell 6 _ HC.out.2
          have l6 := hpb4.frozen 6
          have HG4 : Hid _ := hG4
          have HS4 : Hid _ := hS4
          have HPB4 : Hid (Blk w4 p cs 61) := hpb4
          clear hG4 hS4 hpb4 e1 e2 hsep4 hst4
          cases oa
          all_goals
            go_wp2
            refine bodyPost_ret (v := .bool true) (by simp [results, Yba.results25, go_sem]) rfl ⟨⟨true, rfl, ⟨fun _ => HAns.out, fun _ => rfl⟩⟩, ⟨sn, HG4.out.other HP.out.1 HP.out.2 _⟩, (HS4.out.weak fun b hb => hb.1).set (fun q => q.2 rfl) _, ⟨_, HPB4.out.set 6 _⟩⟩
      · have hfd' : fd = false := by simpa using hfd
        subst hfd'
        obtain ⟨hD, hno⟩ := HD0.out rfl
        have HD : Hid _ := hD
        have HNo : Hid (∀ v ∈ A, aim v = false) := hno
        clear hD hno hfd
        rcases List.eq_nil_or_concat S with hS0 | ⟨S0, u, hS0⟩
        · subst hS0
          simp only [List.length_nil] at HG hcap ⊢
          clear HCell
          have hans := HD.out.none
          rw [HSrc.out] at hans
          have HAns : Hid _ := hans
          clear hans
          obtain ⟨w4, hcl, hsep4, hst4⟩ := clear_run HG.out.sep rs (by rw [upr_same]; intro x hx; obtain ⟨y, _, rfl⟩ := List.mem_map.1 hx; exact ⟨_, rfl⟩)
          rw [upr_same] at hcl
          have hG4 := HG.out.turn (r := rs) (by simp) hsep4 hst4.block
          have e1 := upr_id rows rs
          have e2 := upr_id vals rs
          rw [HRS.out.1] at e1
          rw [HRS.out.2] at e2
          rw [upr_upr, upr_upr, e1, e2] at hG4
          have hS4 := HS.out.trans (hst4.weak fun b hb => hb.1)
          have hpb4 : Blk w4 p cs 61 := (hS4.block p HP.out).trans HPB.out
          have k6 := hpb4.cell 6 _ HC.out.2
          have l6 := hpb4.frozen 6
          have HG4 : Hid _ := hG4
          have HS4 : Hid _ := hS4
          have HPB4 : Hid (Blk w4 p cs 61) := hpb4
          clear hG4 hS4 hpb4 e1 e2 hsep4 hst4
          cases oa
          all_goals
            go_wp2
            refine bodyPost_ret (v := .bool false) (by simp [results, Yba.results25, go_sem]) rfl ⟨⟨false, rfl, by simp only [Bool.false_eq_true, false_iff]; rintro (⟨v, h1, h2⟩ | h1); exact absurd (HNo.out v h1) (by simp [h2]); exact HAns.out h1⟩, ⟨sn, HG4.out.other HP.out.1 HP.out.2 _⟩, (HS4.out.weak fun b hb => hb.1).set (fun q => q.2 rfl) _, ⟨_, HPB4.out.set 6 _⟩⟩
        · rw [List.concat_eq_append] at hS0
          subst hS0
          obtain ⟨m, hm⟩ : ∃ m, m = S0.length := ⟨_, rfl⟩
          have hl : (S0 ++ [u]).length = m + 1 := by simp [hm]
          rw [hl] at hcap
          simp only [hl] at HG HCell
          have hu : u < N := HSN.out u (by simp)
          obtain ⟨g, rfl, hg, cx⟩ := HCell.out m (by omega)
          rw [List.getElem?_map, List.getElem?_append_right (by omega), hm, Nat.sub_self] at cx
          simp only [List.getElem?_cons_zero, Option.map_some, np, ← hm] at cx
          have c0 := HG.out.nodes.c0 hu
          simp only [upr_so] at c0
          have hG5 := Gr.pop HG.out hm
          have hK := HK.out
          rw [hl] at hK
          have hlN : ∀ v ∈ outs E u, v < N := fun v hv => HEl.out _ (mem_outs.1 hv)
          have hf := follow_any hG5 p (outs E u) S0 (ro u) (by simp) (upr_same _ _ _) (by rw [upr_so]; exact HE.out u hu) hlN (by omega) (by have := outs_len E u; omega) HP.out ((World.cell?_of_block (HS.out.block p HP.out)).trans (HPB.out.cell 5 _ HC.out.1))
          rw [upr_same, upr_so] at hf
          have hsp := fol_spec N aim (outs E u) sn S0 hlN
          have HF : Hid _ := hf
          have HSp : Hid _ := hsp
          have HK2 : Hid (unseen N sn + (m + 1) = gk ∧ gk ≤ 1000) := hK
          have HM : Hid (m = S0.length) := hm
          have hm2 : m ≤ 1000 := by omega
          simp only [hl]
          clear hf hsp hG5 hK hlN HCell hm hl HK
          generalize hr1 : fol aim (outs E u) sn S0 = r1 at *
          clear hr1
          go_wp2_with (go_at_call 31; refine Calls.mono HF.out ?_; rintro e w5 ⟨v5, rfl, hG6, hS6⟩)
          clear HF
          go_roundg (unseen N r1.1 + r1.2.1.length)
          case measure => (have h1 := HSp.out.cnt; have h2 := HK2.out; have h3 := HM.out; omega)
          case rel =>
            have hsp := HSp.out
            have hcnt := hsp.cnt
            have hk2 := HK2.out
            have hm3 := HM.out
            rw [upr_upr, upr_upr] at hG6
            refine ⟨r1.2.1, r1.1, r1.2.2, rfl, hG6, HS.out.trans hS6, fun x hx => ?_, rfl, by omega, fun hfd => .inr (HD.out.hit hsp hfd), fun hfd => ⟨HD.out.step hsp hfd, HNo.out⟩⟩
            rcases hsp.sub x hx with h1 | h1
            · exact HSN.out x (by simp [h1])
            · exact HEl.out _ (mem_outs.1 h1.2)
  case inr =>
    simp only [op, Option.map_some]
    have f3 := H.out.nodes.fz hn 3
    have c3 := H.out.nodes.c3 hn
    go_enter Yba.func25, Yba.ntmps25
    go_upto_region 4 with fail
    have hG0 := H.out.setSeen hn
    have hS0 := (Still.refl (Fx F na N) W).set (a := ⟨na n, 3, none⟩) (fun q => q.2 n hn rfl) (.int .u64 1)
    clear c3 f3 c5 c6
    generalize W.setCell ⟨na n, 3, none⟩ (.int .u64 1) = W2 at *
    obtain ⟨g2, cap2, w2, hrun, hsep, hst⟩ := append_run hG0.sep rs (np na n) ⟨_, rfl⟩ (by rw [HRS.out.2]; simp)
    have HG3 : Hid _ := hG0.turn (r := rs) (by simp) hsep hst.block
    have HS3 : Hid (Still (Fx F na N) W w2) := hS0.trans (hst.weak fun b hb => hb.1)
    rw [HRS.out.1, HRS.out.2] at hrun
    rw [HRS.out.2] at HG3
    simp only [np, List.length_nil, Nat.zero_add, List.nil_append] at hrun HG3
    have HR : Hid _ := hrun
    clear hG0 hS0 hsep hst hrun
    go_upto_region 5 with (at_builtin; refine wpList_append_run (by rfl) _ _ _ (by rfl) (by rfl) (by rfl) HR.out ?_)
    obtain ⟨W1, sv1, S1, seen1, src, eW, esv, eS, esn, esrc⟩ : ∃ (W1 : World) (sv1 : Value) (S1 : List Nat) (seen1 : Nat → Bool) (src : Nat → Prop), W1 = w2 ∧ sv1 = .slice (some ⟨g2, 0, none⟩) 1 cap2 ∧ S1 = [n] ∧ seen1 = (up (fun _ => false) n true) ∧ src = (fun u => some n = some u ∨ u ∈ A) := ⟨_, _, _, _, _, rfl, rfl, rfl, rfl, rfl⟩
    have HB1 : Hid (Gr W1 F na N (upr rows rs sv1) (upr vals rs (S1.map (np na))) inn st seen1 aim ∧ Still (Fx F na N) W W1 ∧ (∀ u, seen1 u = true ↔ u ∈ S1) ∧ (∀ u, src u ↔ (u ∈ S1 ∨ u ∈ A)) ∧ unseen N seen1 + S1.length ≤ 1000 ∧ ∀ u ∈ S1, u < N) := by
      subst eW esv eS esn esrc
      refine ⟨HG3.out, HS3.out, ?_, ?_, ?_, ?_⟩
      · intro u
        by_cases e : u = n <;> simp [e, up]
      · intro u
        simp [eq_comm]
      · have := unseen_le N (up (fun _ => false) n true)
        simp
        omega
      · intro u hu
        simp at hu
        omega
    have HSrc : Hid (src = (fun u => some n = some u ∨ u ∈ A)) := esrc
    rw [← esv, ← eW]
    clear eW esv eS esn esrc HG3 HS3 HR
    have hpc := HB1.out.2.1.block p HP.out
    have hf := follow_any HB1.out.1 p A S1 ra (by simp) (upr_same _ _ _) (by rw [upr_sa]; exact HA.out) HAl.out (by have := HB1.out.2.2.2.2.1; omega) (by omega) HP.out ((World.cell?_of_block hpc).trans (HPB.out.cell 5 _ HC.out.1))
    rw [upr_same, upr_sa] at hf
    have hsp := fol_spec N aim A seen1 S1 HAl.out
    have HF : Hid _ := hf
    have HSp : Hid _ := hsp
    clear hf hsp hpc
    generalize hr0 : fol aim A seen1 S1 = r0 at *
    clear hr0
    go_wp2_with (go_at_call 31; refine Calls.mono HF.out ?_; rintro e w3 ⟨v2, rfl, hG2, hS2⟩)
    clear HF
    have HG2 : Hid _ := hG2
    have HS2 : Hid _ := HB1.out.2.1.trans hS2
    clear hG2 hS2
    go_loopg [7, 8] (unseen N r0.1 + r0.2.1.length) (fun k sv fv wr => ∃ (S : List Nat) (sn : Nat → Bool) (fd : Bool), fv = .bool fd ∧ Gr wr F na N (upr rows rs sv) (upr vals rs (S.map (np na))) inn st sn aim ∧ Still (Fx F na N) W wr ∧ (∀ u ∈ S, u < N) ∧ unseen N sn + S.length = k ∧ k ≤ 1000 ∧ (fd = true → (∃ v ∈ A, aim v = true) ∨ Hit E (fun x => aim x = true) src) ∧ (fd = false → DInv E aim sn src S ∧ ∀ v ∈ A, aim v = false))
    case atStart =>
      have hB := HB1.out
      have hsp := HSp.out
      rw [upr_upr, upr_upr] at HG2
      refine ⟨r0.2.1, r0.1, r0.2.2, rfl, HG2.out, HS2.out, fun u hu => ?_, rfl, by rw [hsp.cnt]; exact hB.2.2.2.2.1, fun hfd => .inl (hsp.hit hfd), fun hfd => ⟨DInv.start (fun u => hB.2.2.2.1 u) hB.2.2.1 hsp hfd, fun v hv => (hsp.none hfd v hv).1⟩⟩
      rcases hsp.sub u hu with h1 | h1
      · exact hB.2.2.2.2.2 u h1
      · exact HAl.out u h1.2
    case round =>
      clear HG2 HS2 HB1 HSp
      obtain ⟨S, sn, fd, rfl, hG, hSt, hSN, hk, hk1, hfd1, hfd0⟩ := hrel
      have HG : Hid _ := hG
      have HS : Hid _ := hSt
      have HSN : Hid (∀ u ∈ S, u < N) := hSN
      have HK : Hid (unseen N sn + S.length = gk ∧ gk ≤ 1000) := ⟨hk, hk1⟩
      have HD1 : Hid (fd = true → (∃ v ∈ A, aim v = true) ∨ Hit E (fun x => aim x = true) src) := hfd1
      have HD0 : Hid (fd = false → DInv E aim sn src S ∧ ∀ v ∈ A, aim v = false) := hfd0
      clear hG hSt hSN hk hk1 hfd1 hfd0
      obtain ⟨oa, cap, hsv, hcap, hcell⟩ := row_view (HG.out.sep.own rs)
      rw [upr_same, upr_same, List.length_map] at hsv
      rw [upr_same, List.length_map] at hcap
      simp only [upr_same, List.length_map] at hcell
      subst hsv
      have HCell : Hid _ := hcell
      clear hcell
      by_cases hfd : fd = true
      · subst hfd
        have hans := HD1.out rfl
        rw [HSrc.out] at hans
        have HAns : Hid _ := hans
        clear hans
        by_cases hz : S.length = 0
        · obtain rfl : S = [] := List.eq_nil_of_length_eq_zero hz
          simp only [List.length_nil] at HG hcap ⊢
          clear hz HCell
          obtain ⟨w4, hcl, hsep4, hst4⟩ := clear_run HG.out.sep rs (by rw [upr_same]; intro x hx; obtain ⟨y, _, rfl⟩ := List.mem_map.1 hx; exact ⟨_, rfl⟩)
          rw [upr_same] at hcl
          have hG4 := HG.out.turn (r := rs) (by simp) hsep4 hst4.block
          have e1 := upr_id rows rs
          have e2 := upr_id vals rs
          rw [HRS.out.1] at e1
          rw [HRS.out.2] at e2
          rw [upr_upr, upr_upr, e1, e2] at hG4
          have hS4 := HS.out.trans (hst4.weak fun b hb => hb.1)
          have hpb4 : Blk w4 p cs 61 := (hS4.block p HP.out).trans HPB.out
          have k6 := hpb4.cell 6 _ HC.out.2
          have l6 := hpb4.frozen 6
          have HG4 : Hid _ := hG4
          have HS4 : Hid _ := hS4
          have HPB4 : Hid (Blk w4 p cs 61) := hpb4
          clear hG4 hS4 hpb4 e1 e2 hsep4 hst4
          cases oa
          all_goals
            go_wp2
            refine bodyPost_ret (v := .bool true) (by simp [results, Yba.results25, go_sem]) rfl ⟨⟨true, rfl, ⟨fun _ => HAns.out, fun _ => rfl⟩⟩, ⟨sn, HG4.out.other HP.out.1 HP.out.2 _⟩, (HS4.out.weak fun b hb => hb.1).set (fun q => q.2 rfl) _, ⟨_, HPB4.out.set 6 _⟩⟩
        · have hz' : (0 : Int) < ((S.length : Nat) : Int) := by omega
          have hz2 : 0 < S.length := by omega
          obtain ⟨w4, hcl, hsep4, hst4⟩ := clear_run HG.out.sep rs (by rw [upr_same]; intro x hx; obtain ⟨y, _, rfl⟩ := List.mem_map.1 hx; exact ⟨_, rfl⟩)
          rw [upr_same] at hcl
          have hG4 := HG.out.turn (r := rs) (by simp) hsep4 hst4.block
          have e1 := upr_id rows rs
          have e2 := upr_id vals rs
          rw [HRS.out.1] at e1
          rw [HRS.out.2] at e2
          rw [upr_upr, upr_upr, e1, e2] at hG4
          have hS4 := HS.out.trans (hst4.weak fun b hb => hb.1)
          have hpb4 : Blk w4 p cs 61 := (hS4.block p HP.out).trans HPB.out
          have k6 := hpb4.cell 6 _ HC.out.2
          have l6 := hpb4.frozen 6
          have HG4 : Hid _ := hG4
          have HS4 : Hid _ := hS4
          have HPB4 : Hid (Blk w4 p cs 61) := hpb4
          clear hG4 hS4 hpb4 e1 e2 hsep4 hst4
          cases oa
          all_goals
            go_wp2
            refine bodyPost_ret (v := .bool true) (by simp [results, Yba.results25, go_sem]) rfl ⟨⟨true, rfl, ⟨fun _ => HAns.out, fun _ => rfl⟩⟩, ⟨sn, HG4.out.other HP.out.1 HP.out.2 _⟩, (HS4.out.weak fun b hb => hb.1).set (fun q => q.2 rfl) _, ⟨_, HPB4.out.set 6 _⟩⟩
      · have hfd' : fd = false := by simpa using hfd
        subst hfd'
        obtain ⟨hD, hno⟩ := HD0.out rfl
        have HD : Hid _ := hD
        have HNo : Hid (∀ v ∈ A, aim v = false) := hno
        clear hD hno hfd
        rcases List.eq_nil_or_concat S with hS0 | ⟨S0, u, hS0⟩
        · subst hS0
          simp only [List.length_nil] at HG hcap ⊢
          clear HCell
          have hans := HD.out.none
          rw [HSrc.out] at hans
          have HAns : Hid _ := hans
          clear hans
          obtain ⟨w4, hcl, hsep4, hst4⟩ := clear_run HG.out.sep rs (by rw [upr_same]; intro x hx; obtain ⟨y, _, rfl⟩ := List.mem_map.1 hx; exact ⟨_, rfl⟩)
          rw [upr_same] at hcl
          have hG4 := HG.out.turn (r := rs) (by simp) hsep4 hst4.block
          have e1 := upr_id rows rs
          have e2 := upr_id vals rs
          rw [HRS.out.1] at e1
          rw [HRS.out.2] at e2
          rw [upr_upr, upr_upr, e1, e2] at hG4
          have hS4 := HS.out.trans (hst4.weak fun b hb => hb.1)
          have hpb4 : Blk w4 p cs 61 := (hS4.block p HP.out).trans HPB.out
          have k6 := hpb4.cell 6 _ HC.out.2
          have l6 := hpb4.frozen 6
          have HG4 : Hid _ := hG4
          have HS4 : Hid _ := hS4
          have HPB4 : Hid (Blk w4 p cs 61) := hpb4
          clear hG4 hS4 hpb4 e1 e2 hsep4 hst4
          cases oa
          all_goals
            go_wp2
            refine bodyPost_ret (v := .bool false) (by simp [results, Yba.results25, go_sem]) rfl ⟨⟨false, rfl, by simp only [Bool.false_eq_true, false_iff]; rintro (⟨v, h1, h2⟩ | h1); exact absurd (HNo.out v h1) (by simp [h2]); exact HAns.out h1⟩, ⟨sn, HG4.out.other HP.out.1 HP.out.2 _⟩, (HS4.out.weak fun b hb => hb.1).set (fun q => q.2 rfl) _, ⟨_, HPB4.out.set 6 _⟩⟩
        · rw [List.concat_eq_append] at hS0
          subst hS0
          obtain ⟨m, hm⟩ : ∃ m, m = S0.length := ⟨_, rfl⟩
          have hl : (S0 ++ [u]).length = m + 1 := by simp [hm]
          rw [hl] at hcap
          simp only [hl] at HG HCell
          have hu : u < N := HSN.out u (by simp)
          obtain ⟨g, rfl, hg, cx⟩ := HCell.out m (by omega)
          rw [List.getElem?_map, List.getElem?_append_right (by omega), hm, Nat.sub_self] at cx
          simp only [List.getElem?_cons_zero, Option.map_some, np, ← hm] at cx
          have c0 := HG.out.nodes.c0 hu
          simp only [upr_so] at c0
          have hG5 := Gr.pop HG.out hm
          have hK := HK.out
          rw [hl] at hK
          have hlN : ∀ v ∈ outs E u, v < N := fun v hv => HEl.out _ (mem_outs.1 hv)
          have hf := follow_any hG5 p (outs E u) S0 (ro u) (by simp) (upr_same _ _ _) (by rw [upr_so]; exact HE.out u hu) hlN (by omega) (by have := outs_len E u; omega) HP.out ((World.cell?_of_block (HS.out.block p HP.out)).trans (HPB.out.cell 5 _ HC.out.1))
          rw [upr_same, upr_so] at hf
          have hsp := fol_spec N aim (outs E u) sn S0 hlN
          have HF : Hid _ := hf
          have HSp : Hid _ := hsp
          have HK2 : Hid (unseen N sn + (m + 1) = gk ∧ gk ≤ 1000) := hK
          have HM : Hid (m = S0.length) := hm
          have hm2 : m ≤ 1000 := by omega
          simp only [hl]
          clear hf hsp hG5 hK hlN HCell hm hl HK
          generalize hr1 : fol aim (outs E u) sn S0 = r1 at *
          clear hr1
          go_wp2_with (go_at_call 31; refine Calls.mono HF.out ?_; rintro e w5 ⟨v5, rfl, hG6, hS6⟩)
          clear HF
          go_roundg (unseen N r1.1 + r1.2.1.length)
          case measure => (have h1 := HSp.out.cnt; have h2 := HK2.out; have h3 := HM.out; omega)
          case rel =>
            have hsp := HSp.out
            have hcnt := hsp.cnt
            have hk2 := HK2.out
            have hm3 := HM.out
            rw [upr_upr, upr_upr] at hG6
            refine ⟨r1.2.1, r1.1, r1.2.2, rfl, hG6, HS.out.trans hS6, fun x hx => ?_, rfl, by omega, fun hfd => .inr (HD.out.hit hsp hfd), fun hfd => ⟨HD.out.step hsp hfd, HNo.out⟩⟩
            rcases hsp.sub x hx with h1 | h1
            · exact HSN.out x (by simp [h1])
            · exact HEl.out _ (mem_outs.1 h1.2)
end Go.Proofs.Ybulkboaa.BReach2
