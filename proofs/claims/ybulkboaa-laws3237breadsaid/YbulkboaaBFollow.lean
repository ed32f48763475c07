import Derived.Test.YbulkboaaBLink
import Derived.Deep.DeepCutAuto
namespace Go.Proofs.Ybulkboaa.BFollow
open Go.RowKit MapLaw CBase BPlain BBreach BMem BLink
set_option linter.unusedVariables false
set_option maxRecDepth 100000

/-- follow: the ends L, what was seen, the stack -/
def fol (aim : Nat → Bool) : List Nat → (Nat → Bool) → List Nat → (Nat → Bool) × List Nat × Bool
  | [], seen, S => (seen, S, false)
  | v :: L, seen, S => if aim v then (seen, S, true) else if seen v then fol aim L seen S else fol aim L (up seen v true) (S ++ [v])

/-- how many of the first n nodes are not seen -/
def unseen : Nat → (Nat → Bool) → Nat
  | 0, _ => 0
  | n + 1, s => unseen n s + if s n then 0 else 1
theorem unseen_same {n : Nat} {s s' : Nat → Bool} (h : ∀ i, i < n → s i = s' i) : unseen n s = unseen n s' := by
  induction n with
  | zero => rfl
  | succ n ih => unfold unseen; rw [ih fun i hi => h i (by omega), h n (by omega)]
theorem unseen_up {n v : Nat} {s : Nat → Bool} (hv : v < n) (hs : s v = false) : unseen n (up s v true) + 1 = unseen n s := by
  induction n with
  | zero => omega
  | succ n ih =>
    unfold unseen
    by_cases e : v = n
    · subst e
      rw [up_same, hs, unseen_same (s := up s v true) (s' := s) fun i hi => up_other _ _ (by omega)]
      simp
    · rw [up_other _ _ (fun e2 => e e2.symm)]
      have := ih (by omega)
      omega
theorem unseen_le (n : Nat) (s : Nat → Bool) : unseen n s ≤ n := by
  induction n with
  | zero => exact Nat.le_refl _
  | succ n ih => unfold unseen; split <;> omega

structure Fol (N : Nat) (aim : Nat → Bool) (L : List Nat) (seen : Nat → Bool) (S : List Nat) (r : (Nat → Bool) × List Nat × Bool) : Prop where
  old : ∀ u, seen u = true → r.1 u = true
  sub : ∀ u, u ∈ r.2.1 → u ∈ S ∨ (r.1 u = true ∧ u ∈ L)
  keep : ∀ u, u ∈ S → u ∈ r.2.1
  new : ∀ u, r.1 u = true → seen u = true ∨ (u ∈ r.2.1 ∧ u ∈ L)
  cnt : unseen N r.1 + r.2.1.length = unseen N seen + S.length
  hit : r.2.2 = true → ∃ v ∈ L, aim v = true
  none : r.2.2 = false → ∀ v ∈ L, aim v = false ∧ r.1 v = true

theorem fol_spec (N : Nat) (aim : Nat → Bool) (L : List Nat) (seen : Nat → Bool) (S : List Nat) (hL : ∀ v ∈ L, v < N) : Fol N aim L seen S (fol aim L seen S) := by
  induction L generalizing seen S with
  | nil => exact ⟨fun u h => h, fun u h => .inl h, fun u h => h, fun u h => .inl h, rfl, fun h => by simp [fol] at h, fun _ v hv => by simp at hv⟩
  | cons v L ih =>
    have hL' : ∀ x ∈ L, x < N := fun x hx => hL x (by simp [hx])
    unfold fol
    by_cases ha : aim v = true
    · rw [if_pos ha]
      exact ⟨fun u h => h, fun u h => .inl h, fun u h => h, fun u h => .inl h, rfl, fun _ => ⟨v, by simp, ha⟩, fun h => by simp at h⟩
    · rw [if_neg ha]
      have ha' : aim v = false := by simpa using ha
      by_cases hs : seen v = true
      · rw [if_pos hs]
        have I := ih seen S hL'
        exact ⟨I.old, fun u h => (I.sub u h).imp id fun h => ⟨h.1, by simp [h.2]⟩, I.keep, fun u h => (I.new u h).imp id fun h => ⟨h.1, by simp [h.2]⟩, I.cnt, fun h => by obtain ⟨x, h1, h2⟩ := I.hit h; exact ⟨x, by simp [h1], h2⟩, fun h x hx => by
          rcases List.mem_cons.1 hx with rfl | hx
          · exact ⟨ha', I.old _ hs⟩
          · exact I.none h x hx⟩
      · rw [if_neg hs]
        have hs' : seen v = false := by simpa using hs
        have I := ih (up seen v true) (S ++ [v]) hL'
        have hv := I.old v (up_same _ _ _)
        refine ⟨fun u h => I.old u ?_, fun u h => ?_, fun u h => I.keep u (by simp [h]), fun u h => ?_, ?_, fun h => by obtain ⟨x, h1, h2⟩ := I.hit h; exact ⟨x, by simp [h1], h2⟩, fun h x hx => ?_⟩
        · by_cases e : u = v
          · subst e; exact up_same _ _ _
          · rw [up_other _ _ e]; exact h
        · rcases I.sub u h with h1 | h1
          · rw [List.mem_append, List.mem_singleton] at h1
            rcases h1 with h1 | rfl
            · exact .inl h1
            · exact .inr ⟨hv, by simp⟩
          · exact .inr ⟨h1.1, by simp [h1.2]⟩
        · rcases I.new u h with h1 | h1
          · by_cases e : u = v
            · subst e; exact .inr ⟨I.keep u (by simp), by simp⟩
            · rw [up_other _ _ e] at h1; exact .inl h1
          · exact .inr ⟨h1.1, by simp [h1.2]⟩
        · have h1 := I.cnt
          have h2 := unseen_up (hL v (by simp)) hs'
          rw [List.length_append, List.length_singleton] at h1
          omega
        · rcases List.mem_cons.1 hx with rfl | hx
          · exact ⟨ha', hv⟩
          · exact I.none h x hx

section
variable {W : World} {F : Nat → Prop} {na : Nat → Nat} {N : Nat} {rows : Rid → Value} {vals : Rid → List Value} {inn st : Nat → Nat} {seen aim : Nat → Bool}
theorem Gr.drewN (h : Gr W F na N rows vals inn st seen aim) (n : Nat) : Gr (W.drewN n) F na N rows vals inn st seen aim :=
  ⟨h.sep.keep (Nat.le_refl _) fun _ _ _ => rfl, h.nodes.same fun _ _ => rfl, h.inF⟩

theorem upr_upr {α : Type} (f : Rid → α) (r : Rid) (v v' : α) : upr (upr f r v) r v' = upr f r v' := by
  funext x
  by_cases e : x = r
  · subst e; simp
  · simp [upr_other _ _ e]
theorem upr_id {α : Type} (f : Rid → α) (r : Rid) : upr f r (f r) = f := by
  funext x
  by_cases e : x = r
  · subst e; simp
  · simp [upr_other _ _ e]

set_option maxHeartbeats 1600000 in
/-- follow -/
theorem follow_any (h : Gr W F na N rows vals inn st seen aim) (p : Nat) (L S : List Nat) (r : Rid) (hr : r ≠ rs) (hS : vals rs = S.map (np na)) (hL : vals r = L.map (np na)) (hlt : ∀ v ∈ L, v < N) (hcnt : unseen N seen + S.length ≤ 100000) (hLl : L.length ≤ 100000)
    (hp : Fx F na N p) (cp : W.cell? ⟨p, 5, none⟩ = some (.int .u64 1)) :
    Calls Yba.prog 31 #[.pointer (some ⟨p, 0, none⟩), rows rs, rows r] W fun e w' => ∃ v, e = .returned (.tuple #[v, .bool (fol aim L seen S).2.2]) ∧
      Gr w' F na N (upr rows rs v) (upr vals rs ((fol aim L seen S).2.1.map (np na))) inn st (fol aim L seen S).1 aim ∧ Still (Fx F na N) W w' := by
  have H0 : Hid (Gr W F na N (upr rows rs (rows rs)) (upr vals rs (S.map (np na))) inn st seen aim) := by
    show Gr W F na N (upr rows rs (rows rs)) (upr vals rs (S.map (np na))) inn st seen aim
    rw [← hS, upr_id, upr_id]; exact h
  obtain ⟨oa, ca, hra, hca, _⟩ := row_view (h.sep.own r)
  have hl : (vals r).length = L.length := by rw [hL]; simp
  rw [hl] at hra hca
  have HV : Hid (rows r = .slice oa L.length ca ∧ vals r = L.map (np na) ∧ r ≠ rs) := ⟨hra, hL, hr⟩
  have HC : Hid (W.cell? ⟨p, 5, none⟩ = some (.int .u64 1)) := cp
  have HP : Hid (Fx F na N p) := hp
  have HCnt : Hid (unseen N seen + S.length ≤ 100000) := hcnt
  have HLt : Hid (∀ v ∈ L, v < N) := hlt
  rw [hra]
  clear h hS hL hr hra cp hp hcnt hlt hl
  generalize rows rs = sv0 at *
  go_enter Yba.func31, Yba.ntmps31
  go_wp2
  go_loopw [1, 12] (fun sv iv wr => ∃ (i : Nat) (seen' : Nat → Bool) (S' : List Nat), iv = .int .i64 (i : Int) ∧ i ≤ L.length ∧ fol aim (L.drop i) seen' S' = fol aim L seen S ∧ Gr wr F na N (upr rows rs sv) (upr vals rs (S'.map (np na))) inn st seen' aim ∧ Still (Fx F na N) W wr ∧ unseen N seen' + S'.length ≤ 100000) (fun _ iv _ => L.length - (intOf iv).toNat)
  case atStart => exact ⟨0, seen, S, rfl, Nat.zero_le _, rfl, H0.out, Still.refl _ _, HCnt.out⟩
  case round =>
    clear H0
    obtain ⟨i, seen', S', rfl, hi, hfol, hG, hSt, hcn⟩ := hrel
    have HG : Hid _ := hG
    have HS : Hid _ := hSt
    have HF : Hid _ := hfol
    have HN : Hid (unseen N seen' + S'.length ≤ 100000) := hcn
    clear hG hSt hfol hcn
    by_cases hil : i < L.length
    · have hil' : (i : Int) < (L.length : Int) := by omega
      obtain ⟨x, hx⟩ : ∃ x, L[i]? = some x := ⟨_, List.getElem?_eq_getElem hil⟩
      have hxN : x < N := HLt.out x (List.mem_of_getElem? hx)
      have hdrop : L.drop i = x :: L.drop (i + 1) := by
        rw [List.drop_eq_getElem_cons hil]
        congr 1
        exact (List.getElem?_eq_some_iff.1 hx).2
      obtain ⟨oa', ca', e1, _, hcell⟩ := row_view (HG.out.sep.own r)
      rw [upr_other _ _ HV.out.2.2, HV.out.1] at e1
      simp only [upr_other _ _ HV.out.2.2, HV.out.2.1, List.length_map, Value.slice.injEq] at e1 hcell
      obtain ⟨rfl, _, rfl⟩ := e1
      obtain ⟨g, rfl, hg, cx⟩ := hcell i hil
      rw [List.getElem?_map, hx] at cx
      simp only [Option.map_some, np] at cx
      have c4 := HG.out.nodes.c4 hxN
      have c3 := HG.out.nodes.c3 hxN
      have cp : wr.cell? ⟨p, 5, none⟩ = some (.int .u64 1) := (World.cell?_of_block (HS.out.block p HP.out)).trans HC.out
      have HF2 : Hid (fol aim (x :: L.drop (i + 1)) seen' S' = fol aim L seen S) := by rw [← hdrop]; exact HF.out
      clear hcell hx hdrop HF
      by_cases ha : aim x = true
      · simp only [ha, if_true] at c4
        have hres : fol aim L seen S = (seen', S', true) := by rw [← HF2.out]; simp [fol, ha]
        go_wp2
        go_quiet (fail)
        go_wp2
        refine bodyPost_ret (v := .tuple #[u1, .bool true]) (by simp [results, Yba.results31, go_sem]) rfl ⟨u1, ?_, ?_, ?_⟩
        · rw [hres]
        · rw [hres]; exact Gr.drewN HG.out _
        · exact HS.out.drewN _
      · have ha' : aim x = false := by simpa using ha
        simp only [ha', Bool.false_eq_true, if_false] at c4
        by_cases hs : seen' x = true
        · simp only [hs, if_true] at c3
          go_wp2
          go_quiet (fail)
          go_wp2
          go_quiet (fail)
          go_wp2
          go_roundw
          case rel => exact ⟨i + 1, seen', S', by go_num, by omega, by rw [← HF2.out]; simp [fol, ha', hs], Gr.drewN HG.out _, HS.out.drewN _, HN.out⟩
          case measure => simp [intOf]; omega
        · have hs' : seen' x = false := by simpa using hs
          simp only [hs', Bool.false_eq_true, if_false] at c3
          have f3 := HG.out.nodes.fz hxN 3
          go_wp2
          go_quiet (fail)
          revert nq; intro k1
          go_wp2
          go_quiet (fail)
          revert nq; intro k2
          go_upto_region 8 with fail
          have hG2 := (Gr.drewN HG.out (k1 + k2)).setSeen hxN
          have hS2 := (HS.out.drewN (k1 + k2)).set (a := ⟨na x, 3, none⟩) (fun q => q.2 x hxN rfl) (.int .u64 1)
          clear c3 c4 cp f3 cx hg hil'
          generalize (wr.drewN (k1 + k2)).setCell ⟨na x, 3, none⟩ (.int .u64 1) = W2 at *
          have hlen : (upr vals rs (S'.map (np na)) rs).length ≤ 100000 := by rw [upr_same, List.length_map]; have := HN.out; omega
          obtain ⟨g2, cap2, w2, hrun, hsep, hst⟩ := append_run hG2.sep rs (np na x) ⟨_, rfl⟩ hlen
          have hG3 := hG2.turn (r := rs) (by simp) hsep hst.block
          have HG3 : Hid _ := hG3
          have HS3 : Hid (Still (Fx F na N) W w2) := hS2.trans (hst.weak fun b hb => hb.1)
          rw [upr_same] at hrun
          simp only [np] at hrun
          have HR : Hid _ := hrun
          clear hG2 hS2 hsep hst hG3 hrun hlen
          go_wp2_with (at_builtin; refine wpList_append_run (by rfl) _ _ _ (by rfl) (by rfl) (by rfl) HR.out ?_)
          go_roundw
          case rel =>
            refine ⟨i + 1, up seen' x true, S' ++ [x], by go_num, by omega, by rw [← HF2.out]; simp [fol, ha', hs'], ?_, HS3.out, ?_⟩
            · have := HG3.out
              rw [upr_upr, upr_upr, upr_same] at this
              simpa using this
            · have h1 := unseen_up hxN hs'
              have h2 := HN.out
              rw [List.length_append, List.length_singleton]
              omega
          case measure => simp [intOf]; omega
    · obtain rfl : i = L.length := by omega
      have hres : fol aim L seen S = (seen', S', false) := by rw [← HF.out]; simp [fol]
      go_wp2
      refine bodyPost_ret (v := .tuple #[u1, .bool false]) (by simp [results, Yba.results31, go_sem]) rfl ⟨u1, ?_, ?_, ?_⟩
      · rw [hres]
      · rw [hres]; exact HG.out
      · exact HS.out
end
end Go.Proofs.Ybulkboaa.BFollow
