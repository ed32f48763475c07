import Derived.Test.YbulkbnxiBase
import Derived.Test.YbulkbnxiLocks
import Derived.Conc.MuLone
import Derived.Defers
namespace Go.Proofs.Ybulkbnxi.Known
open Go.RowKit Base Go.MuLone
set_option linter.unusedVariables false

/-- the cells of a slice of deletions that bear their time alone -/
def delCells (ats : List Int) : List Value := ats.flatMap fun a => [.int .i64 a, .int .i64 0, .int .i64 0]

theorem delCells_length (ats : List Int) : (delCells ats).length = 3 * ats.length := by
  induction ats with
  | nil => rfl
  | cons a l ih =>
    have : delCells (a :: l) = [.int .i64 a, .int .i64 0, .int .i64 0] ++ delCells l := rfl
    rw [this, List.length_append, ih]; simp; omega

theorem delCells_append (l m : List Int) : delCells (l ++ m) = delCells l ++ delCells m := by simp [delCells]

theorem delCells_get (ats : List Int) (i : Nat) (h : i < ats.length) :
    (delCells ats)[i * 3]? = some (.int .i64 (ats.getD i 0)) ∧ (delCells ats)[i * 3 + 1]? = some (.int .i64 0) ∧ (delCells ats)[i * 3 + 2]? = some (.int .i64 0) := by
  induction ats generalizing i with
  | nil => simp at h
  | cons a l ih =>
    have e : delCells (a :: l) = .int .i64 a :: .int .i64 0 :: .int .i64 0 :: delCells l := rfl
    rw [e]
    cases i with
    | zero => simp
    | succ i =>
      have := ih i (by simpa using h)
      have h1 : (i + 1) * 3 = i * 3 + 1 + 1 + 1 := by omega
      simp only [h1, List.getElem?_cons_succ, List.getD_cons_succ]
      refine ⟨this.1, ?_, ?_⟩
      · have : i * 3 + 1 + 1 + 1 + 1 = (i * 3 + 1) + 1 + 1 + 1 := rfl
        exact ‹_ ∧ _ ∧ _›.2.1
      · exact ‹_ ∧ _ ∧ _›.2.2

/-- the greatest of m and the first k of ats, as the loop makes it -/
def best (m : Int) (ats : List Int) : Int := ats.foldl (fun a b => if a < b then b else a) m

theorem best_snoc (m : Int) (ats : List Int) (k : Nat) (h : k < ats.length) :
    best m (ats.take (k + 1)) = if best m (ats.take k) < ats.getD k 0 then ats.getD k 0 else best m (ats.take k) := by
  unfold best
  rw [List.take_succ_eq_append_getElem h, List.foldl_append]
  simp [List.getD_eq_getElem?_getD, h]

theorem dels_view {w : World} {base : Nat} {v : Value} {n : Nat} {ats : List Int} (h : w.ownsRow base 46 3 v n (delCells ats)) :
    ats.length = n ∧ ∃ vo vcap, v = .slice vo n vcap ∧ n ≤ vcap ∧ ∀ i, i < n → ∃ g, vo = some ⟨g, 0, none⟩ ∧ base ≤ g ∧ g < w.heap.size ∧
      w.cell? ⟨g, i * 3, none⟩ = some (.int .i64 (ats.getD i 0)) ∧ w.cell? ⟨g, i * 3 + 1, none⟩ = some (.int .i64 0) ∧ w.cell? ⟨g, i * 3 + 2, none⟩ = some (.int .i64 0) := by
  have hl : ats.length = n := by have := h.1; rw [delCells_length] at this; omega
  refine ⟨hl, ?_⟩
  rcases h.2 with ⟨hv, hn⟩ | ⟨g, cap, cur, hv, hb, hg, hnc, hcm, hcs, ht⟩
  · subst hn
    exact ⟨none, 0, hv, Nat.le_refl _, fun i hi => by omega⟩
  · refine ⟨some ⟨g, 0, none⟩, cap, hv, hnc, fun i hi => ⟨g, rfl, hb, (h.lt g (by rw [hv]; rfl)).2, ?_⟩⟩
    subst hv
    have hd := delCells_get ats i (by omega)
    exact ⟨(h.cellAt _ (by omega)).trans hd.1, (h.cellAt _ (by omega)).trans hd.2.1, (h.cellAt _ (by omega)).trans hd.2.2⟩

set_option maxRecDepth 100000 in
set_option maxHeartbeats 400000 in
theorem known_any (B b : Nat) (v1 : Value) (n1 : Nat) (zs : List Int) (vo : Option Addr) (vcap n2 : Nat) (ats : List Int) (w : World) (hB : B ≤ b) (hbw : b < w.heap.size)
    (hn1 : n1 ≤ 1024) (hn2 : n2 ≤ 1024) (hnc : n2 ≤ vcap) (hal : ats.length = n2)
    (c10 : w.cell? ⟨b, 10, none⟩ = some (.int .i32 0)) (f10 : w.frozen? ⟨b, 10, none⟩ = false) (c12 : w.cell? ⟨b, 12, none⟩ = some v1) (c14 : w.cell? ⟨b, 14, none⟩ = some (.slice vo n2 vcap))
    (h1 : (w.setCell ⟨b, 10, none⟩ (.int .i32 1)).ownsRow B 2 1 v1 n1 (zs.map (Value.int .i64)))
    (h2 : ∀ i, i < n2 → ∃ g, vo = some ⟨g, 0, none⟩ ∧ g < w.heap.size ∧ g ≠ b ∧
      w.cell? ⟨g, i * 3, none⟩ = some (.int .i64 (ats.getD i 0)) ∧ w.cell? ⟨g, i * 3 + 1, none⟩ = some (.int .i64 0) ∧ w.cell? ⟨g, i * 3 + 2, none⟩ = some (.int .i64 0)) :
    Calls Yba.prog 6 #[.pointer (some ⟨b, 0, none⟩)] w fun e w' => e = .returned (.int .i64 (best (lastOf zs) ats)) ∧ Below B w w' := by
  have H2 : Hid (∀ i, i < n2 → ∃ g, vo = some ⟨g, 0, none⟩ ∧ g < w.heap.size ∧ g ≠ b ∧
      w.cell? ⟨g, i * 3, none⟩ = some (.int .i64 (ats.getD i 0)) ∧ w.cell? ⟨g, i * 3 + 1, none⟩ = some (.int .i64 0) ∧ w.cell? ⟨g, i * 3 + 2, none⟩ = some (.int .i64 0)) := h2
  have HA : Hid (ats.length = n2) := hal
  clear h2 hal
  have d12 : (w.setCell ⟨b, 10, none⟩ (.int .i32 1)).cell? ⟨b, 12, none⟩ = some v1 := (World.cell?_setCell_other _ _ _ _ (by simp)).trans c12
  have d14 : (w.setCell ⟨b, 10, none⟩ (.int .i32 1)).cell? ⟨b, 14, none⟩ = some (.slice vo n2 vcap) := (World.cell?_setCell_other _ _ _ _ (by simp)).trans c14
  go_enter_defers Yba.func6, Yba.ntmps6
  go_wp2_with (first
    | (go_at_call 7; refine (lock_free Yba.muLib ⟨b, 10, none⟩ _ c10 f10).mono ?_; rintro e w' ⟨rfl, rfl⟩)
    | (go_at_call 5; refine (last_any b B 2 v1 n1 zs _ hn1 h1 d12).mono ?_; rintro e w' ⟨rfl, rfl⟩))
  have HW : Hid (∀ i, i < n2 → ∃ g, vo = some ⟨g, 0, none⟩ ∧ g < w.heap.size ∧
      (w.setCell ⟨b, 10, none⟩ (.int .i32 1)).cell? ⟨g, i * 3, none⟩ = some (.int .i64 (ats.getD i 0)) ∧ (w.setCell ⟨b, 10, none⟩ (.int .i32 1)).cell? ⟨g, i * 3 + 1, none⟩ = some (.int .i64 0) ∧ (w.setCell ⟨b, 10, none⟩ (.int .i32 1)).cell? ⟨g, i * 3 + 2, none⟩ = some (.int .i64 0)) := by
    intro i hi
    obtain ⟨g, hg, hgw, hgb, e0, e1, e2⟩ := H2.out i hi
    refine ⟨g, hg, hgw, (World.cell?_setCell_other _ _ _ _ ?_).trans e0, (World.cell?_setCell_other _ _ _ _ ?_).trans e1, (World.cell?_setCell_other _ _ _ _ ?_).trans e2⟩ <;> simp <;> omega
  have e10 : (w.setCell ⟨b, 10, none⟩ (.int .i32 1)).cell? ⟨b, 10, none⟩ = some (.int .i32 1) := World.cell?_setCell_same _ _ _ c10
  have g10 : (w.setCell ⟨b, 10, none⟩ (.int .i32 1)).frozen? ⟨b, 10, none⟩ = false := by simp [f10]
  have hbel : Below B w (w.setCell ⟨b, 10, none⟩ (.int .i32 1)) := (Below.refl B w).setCell hB _
  have hsz : (w.setCell ⟨b, 10, none⟩ (.int .i32 1)).heap.size = w.heap.size := by simp
  clear H2 c10 f10 c12 c14 d12 d14 h1
  generalize w.setCell ⟨b, 10, none⟩ (.int .i32 1) = W at *
  rw [← hsz] at hbw HW
  have hBs : B ≤ W.heap.size := by omega
  have HBel : Hid (Below B w W) := hbel
  clear hbel hsz
  go_loopw [3, 22] (fun t i wr => ∃ k : Nat, k ≤ n2 ∧ i = .int .i64 k ∧ t = .int .i64 (best (lastOf zs) (ats.take k)) ∧ Below W.heap.size W wr) (fun _ i _ => n2 - (intOf i).toNat)
  case atStart => exact ⟨0, Nat.zero_le _, rfl, rfl, Below.refl _ _⟩
  case round =>
    obtain ⟨k, hk, rfl, rfl, hb⟩ := hrel
    by_cases hlt : k < n2
    · obtain ⟨g, rfl, hgw, e0, e1, e2⟩ := HW.out k hlt
      have k0 := (hb.cell (p := ⟨g, k * 3, none⟩) hgw).trans e0
      have k1 := (hb.cell (p := ⟨g, k * 3 + 1, none⟩) hgw).trans e1
      have k2 := (hb.cell (p := ⟨g, k * 3 + 2, none⟩) hgw).trans e2
      have HT : Hid (best (lastOf zs) (ats.take (k + 1)) = if best (lastOf zs) (ats.take k) < ats.getD k 0 then ats.getD k 0 else best (lastOf zs) (ats.take k)) := best_snoc _ _ _ (by rw [HA.out]; exact hlt)
      have hbs := hb.size
      clear e0 e1 e2 e10 g10 HW
      generalize best (lastOf zs) (ats.take k) = m at *
      go_wp2
      go_roundw
      case rel => exact ⟨k + 1, by omega, by go_num, by rw [HT.out]; simp [List.getD_eq_getElem?_getD], hb.alloc hbs _⟩
      case measure => simp [intOf]; omega
    · obtain rfl : k = n2 := by omega
      have HT : Hid (best (lastOf zs) (ats.take k) = best (lastOf zs) ats) := by show best _ (ats.take k) = _; rw [List.take_of_length_le (by rw [HA.out]; exact Nat.le_refl _)]
      have j10 := (hb.cell (p := ⟨b, 10, none⟩) hbw).trans e10
      have l10 := (hb.frozen (p := ⟨b, 10, none⟩) hbw).trans g10
      clear e10 g10 HW
      go_wp2
      refine leaves_cons (f := 8) (args := #[.pointer (some ⟨b, 10, none⟩)]) (by simp) (by simp [go_sem]) ?_
      refine (unlock_deferred Yba.muLib ⟨b, 10, none⟩ .returning _ j10 l10).mono ?_
      rintro e u' w'' ⟨rfl, rfl, rfl⟩
      exact ⟨_, results_tmp rfl _ _ _, by simp [HT.out], (HBel.out.trans (hb.mono hBs)).setCell hB _⟩
end Go.Proofs.Ybulkbnxi.Known
