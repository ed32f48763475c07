import Derived.Test.YbulkbnzmDoorMem
import Derived.Deep.CutRange
namespace Go.Proofs.YbulkbnzmDoor.Dep1
open Go.RowKit MapLaw Base Net Net2 Net3 Net4 Plain Mem
set_option linter.unusedVariables false
set_option maxRecDepth 100000

/-- what a call leaves alone: all below B but the resolutions and the map -/
structure Frm (B sb r : Nat) (W W' : World) : Prop where
  os : W'.os = W.os
  tape : W'.tape = W.tape
  output : W'.output = W.output
  size : W.heap.size ≤ W'.heap.size
  block : ∀ b, b < B → b ≠ sb → b ≠ r → W'.heap[b]? = W.heap[b]?
theorem Frm.of {B sb r : Nat} {W W' : World} (h : Below B W W') : Frm B sb r W W' := ⟨h.os, h.tape, h.output, h.size, fun b hb _ _ => h.block b hb⟩
theorem Frm.trans {B sb r : Nat} {W W' W'' : World} (h : Frm B sb r W W') (k : Frm B sb r W' W'') : Frm B sb r W W'' :=
  ⟨k.os.trans h.os, k.tape.trans h.tape, k.output.trans h.output, Nat.le_trans h.size k.size, fun b h1 h2 h3 => (k.block b h1 h2 h3).trans (h.block b h1 h2 h3)⟩
theorem Frm.set {B sb r : Nat} {W W' : World} (h : Frm B sb r W W') (j : Nat) (v : Value) : Frm B sb r W (W'.setCell ⟨sb, j, none⟩ v) :=
  h.trans (have b := (Below.refl 0 W').setCell (p := ⟨sb, j, none⟩) (Nat.zero_le _) v; ⟨b.os, b.tape, b.output, b.size, fun k h1 h2 h3 => Below.heap_setCell W' ⟨sb, j, none⟩ v k h2⟩)
theorem Frm.drew {B sb r : Nat} {W W' : World} (h : Frm B sb r W W') : Frm B sb r W W'.drew := ⟨h.os, h.tape, h.output, h.size, h.block⟩

/-- what (*RIB).depend leaves -/
def Post (W : World) (a4 a6 : Addr) (eb sb qb r B : Nat) (m : Nat → Nat) (e : Ending) (w' : World) : Prop :=
  e = .returned (.tuple #[]) ∧ (∃ pl' L', St w' a4 a6 eb sb qb r B m pl' L' ∧ Abs m pl' L') ∧ Frm B sb r W w'

section
variable {W : World} {a4 a6 : Addr} {eb sb qb r B : Nat} {m : Nat → Nat} {pl : Nat → Int} {L : Nat → List Nat}

theorem vp_none (eb : Nat) : vp eb 4 = none := by simp [vp]
theorem vp_some {eb k : Nat} (h : k < 4) : vp eb k = some ⟨eb, k * 38, none⟩ := by simp [vp, h]

theorem neq51_nil (W : World) : (binOp .neq 51 (.pointer none) (.pointer none)).run Ybad.prog W = .ok (.bool false) W := by
  have h : ∀ d : Nat, (Op.equalIn (d + 1) 51 (.pointer none) (.pointer none)).run Ybad.prog W = .ok true W := fun d => by simp [Op.equalIn, run_underlying Ybad.underlying51]
  have h1 : (Op.equal 51 (.pointer none) (.pointer none)).run Ybad.prog W = .ok true W := h 9999
  simp only [binOp]
  simp [h1]

set_option maxHeartbeats 1600000 in
/-- from nothing to nothing -/
theorem dep_nn (h : St W a4 a6 eb sb qb r B m pl L) (hA : Abs m pl L) (o : Ord a4 a6 eb sb qb r B) {i : Nat} (hi : i < 3) (hm : m i = 4) :
    Calls Ybad.prog 7 #[.pointer (some ⟨qb, 0, none⟩), .pointer (some ⟨sb, i * 19, none⟩), .pointer none] W (Post W a4 a6 eb sb qb r B (up m i 4)) := by
  obtain ⟨cs, hb, hR⟩ := h.rs
  have c10 := hb.cell (i * 19 + 10) _ (hR.2 i hi).1
  rw [hm, vp_none] at c10
  have f10 := hb.frozen (i * 19 + 10)
  have HS : Hid (St W a4 a6 eb sb qb r B m pl L) := h
  have HA : Hid (Abs m pl L) := hA
  have HM : Hid (m i = 4) := hm
  have hn := neq51_nil
  clear hb hR h hm
  go_enter Ybad.func7, Ybad.ntmps7
  go_wp2
  go_quiet (fail)
  go_wp2
  refine bodyPost_end (v := .tuple #[]) (by simp [results, Ybad.results7]) rfl ⟨rfl, ⟨pl, L, ?_, ?_⟩, (Frm.of (bDrewN (Below.refl _ _) _)).set _ _⟩
  · have hS := (HS.out.later o (bDrewN (Below.refl _ _) nq)).set o (i * 19 + 10) (.pointer none) (up m i 4) pl (fun cs hR => by have := hR.via hi 4; rwa [vp_none] at this)
    exact hS
  · have e : up m i 4 = m := by funext x; by_cases h : x = i; subst h; rw [up_same]; exact HM.out.symm; exact up_other _ _ h
    rw [e]; exact HA.out

theorem neqKK (a4 a6 : Addr) (g g' : Nat) (hg : g < 3) (hg' : g' < 3) (W : World) : (binOp .neq 43 (KK a4 a6 g) (KK a4 a6 g')).run Ybad.prog W = .ok (.bool (!(g == g'))) W := by
  have h1 := equal_KK a4 a6 W g g' hg hg'
  unfold KK at h1 ⊢
  simp only [binOp]
  simp only [Sem.run_bind, h1, Result.andThen_ok, Sem.run_pure]
theorem guardKK (a4 a6 : Addr) (g g' : Nat) (x y : Operand) (W : World) : (eqGuard .neq 43 x y (KK a4 a6 g) (KK a4 a6 g')).run Ybad.prog W = .ok () W := run_eqGuard_agg W .neq 43 x y _ _ Ybad.eqGuardType43
theorem prefix_K (k : Nat) (hk : k < 4) (eb : Nat) (a4 a6 : Addr) (w : World) (hg : Gl w a4 a6) (he : Blk w eb esC 34) :
    Calls Ybad.prog 13 #[.pointer (some ⟨eb, k * 38, none⟩)] w fun e w' => e = .returned (KK a4 a6 (grp k)) ∧ Below w.heap.size w w' := prefix_any k hk eb a4 a6 w hg he

theorem kp {w1 w2 : World} {v : Value} {b j : Nat} (hl : b < W.heap.size) (h : w1.cell? ⟨b, j, none⟩ = some v ∧ Below W.heap.size W w1) (hb : Below w1.heap.size w1 w2) : w2.cell? ⟨b, j, none⟩ = some v ∧ Below W.heap.size W w2 :=
  ⟨(hb.cell (p := ⟨b, j, none⟩) (Nat.lt_of_lt_of_le hl h.2.size)).trans h.1, h.2.trans (hb.mono h.2.size)⟩

set_option maxHeartbeats 1600000 in
/-- to an entry of the same prefix -/
theorem dep_same (h : St W a4 a6 eb sb qb r B m pl L) (hA : Abs m pl L) (o : Ord a4 a6 eb sb qb r B) {i k : Nat} (hi : i < 3) (hm : m i < 4) (hk : k < 4) (hg : grp k = grp (m i)) :
    Calls Ybad.prog 7 #[.pointer (some ⟨qb, 0, none⟩), .pointer (some ⟨sb, i * 19, none⟩), .pointer (some ⟨eb, k * 38, none⟩)] W (Post W a4 a6 eb sb qb r B (up m i k)) := by
  obtain ⟨cs, hb, hR⟩ := h.rs
  have c10 := hb.cell (i * 19 + 10) _ (hR.2 i hi).1
  rw [vp_some hm] at c10
  have f10 := hb.frozen (i * 19 + 10)
  obtain ⟨p, hp, _⟩ := hA.on i hi hm
  have c14 := hb.cell (i * 19 + 14) _ (hR.2 i hi).2
  rw [hp] at c14
  have HS : Hid (St W a4 a6 eb sb qb r B m pl L) := h
  have HA : Hid (Abs m pl L ∧ Abs (up m i k) pl L) := ⟨hA, hA.same hi hm hk hg⟩
  have HO : Hid (Ord a4 a6 eb sb qb r B) := o
  have HC : Hid (W.drew.cell? ⟨sb, i * 19 + 10, none⟩ = some (.pointer (some ⟨eb, m i * 38, none⟩)) ∧ Below W.heap.size W W.drew) := ⟨c10, (Below.refl _ _).drew⟩
  have hl := hb.lt
  generalize hmi : m i = k0 at *
  have HG : Hid (grp k = grp k0) := hg
  have HKI : Hid (m i = k0) := hmi
  have hgd := guardKK a4 a6 (grp k) (grp k0)
  have hq := neqKK a4 a6 (grp k) (grp k0) (grp_lt hk) (grp_lt hm)
  rw [show (grp k == grp k0) = true by simpa using hg] at hq
  clear hb hR h hA o hg hmi
  go_enter Ybad.func7, Ybad.ntmps7
  go_wp2
  go_region_held3 (fun w2 => w2.cell? ⟨sb, i * 19 + 10, none⟩ = some (.pointer (some ⟨eb, k0 * 38, none⟩)) ∧ Below W.heap.size W w2)
    ((first | exact HC.out | exact kp hl (by assumption) (by assumption)))
    ((go_at_call 13; have hS1 : _ ∧ Below W.heap.size W _ := (by assumption); refine (prefix_K _ (by assumption) eb a4 a6 _ (HS.out.later HO.out hS1.2).gl (HS.out.later HO.out hS1.2).es).mono ?_; clear hS1; rintro e w2 ⟨rfl, hb⟩))
  have hh : w2.cell? ⟨sb, i * 19 + 10, none⟩ = some (.pointer (some ⟨eb, k0 * 38, none⟩)) ∧ Below W.heap.size W w2 := by assumption
  have c10' := hh.1
  have f10' := (hh.2.frozen (p := ⟨sb, i * 19 + 10, none⟩) hl).trans f10
  have c14' := (hh.2.cell (p := ⟨sb, i * 19 + 14, none⟩) hl).trans c14
  have HB : Hid (Below W.heap.size W w2) := hh.2
  clear hh c10 f10 c14 HC
  go_wp2
  refine bodyPost_end (v := .tuple #[]) (by simp [results, Ybad.results7]) rfl ⟨rfl, ⟨pl, L, ?_, HA.out.2⟩, (Frm.of (HB.out.mono HS.out.bB)).set _ _⟩
  exact (HS.out.later HO.out HB.out).set HO.out (i * 19 + 10) _ (up m i k) pl (fun cs hR => by have := hR.via hi k; rwa [vp_some hk] at this)
end
end Go.Proofs.YbulkbnzmDoor.Dep1
