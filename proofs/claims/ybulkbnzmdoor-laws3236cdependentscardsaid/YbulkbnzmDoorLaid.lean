import Derived.Test.YbulkbnzmDoorLaw1
import Derived.ProofKit
import Derived.LaidMore
import Derived.OpenShut
import Derived.ChangeOld
import Derived.Stop.Joined
namespace Go.Proofs.YbulkbnzmDoor.Laid
open Go.ChangeShapes Go.WideShapes Go.ChangeAt Go.WideElems Go.RowKit Base
set_option linter.unusedVariables false
set_option maxRecDepth 100000

theorem g4 : Ybad.prog.globalNamed "net/netip.z4" = some 0 := by kernel_rfl
theorem g6 : Ybad.prog.globalNamed "net/netip.z6noz" = some 1 := by kernel_rfl
theorem g0 : Ybad.prog.globalNamed "net/netip.z0" = some 2 := by kernel_rfl
theorem t4 : (Ybad.prog.globals[0]?).map (·.type) = some 39 := by kernel_rfl
theorem t6 : (Ybad.prog.globals[1]?).map (·.type) = some 39 := by kernel_rfl
theorem t0 : (Ybad.prog.globals[2]?).map (·.type) = some 39 := by kernel_rfl
theorem c39 : Ybad.prog.cellsOf 39 = 1 := by kernel_rfl
theorem c37 : Ybad.prog.cellsOf 37 = 1 := by kernel_rfl
theorem c129 : Ybad.prog.cellsOf 129 = 2 := by kernel_rfl

theorem open39 {W : World} {fuel : Nat} {cs : List Value} {x : DataW Unit × List MemPlace} (h : DataW.trod (fun _ => ()) Ybad.prog W 0 (fun _ => true) false fuel 39 cs = some x) :
    (cs = [.pointer none] ∧ x.1 = .agg [.nil]) ∨ ∃ a d, cs = [.pointer (some a)] ∧ x.1 = .agg [.ptr d] ∧ ∃ q, x.2 = MemPlace.row a 2 ++ q := by
  obtain ⟨xs, n, rfl, rfl, hl, hxl, hf⟩ := DataW.trod_struct Ybad.underlying39 h
  have h0 : DataW.trod (fun _ => ()) Ybad.prog W 0 (fun _ => true) false n 37 ((cs.drop 0).take (Ybad.prog.cellsOf 37)) = xs[0]? := hf 0 _ rfl
  rw [c37] at h0
  rw [c39] at hl
  match cs, hl, xs, hxl, h0 with
  | [c], _, [y], _, h0 =>
    simp at h0
    rcases DataW.trod_pointer Ybad.underlying37 h0 with ⟨e1, e2⟩ | ⟨a, cs', z, n', _, e1, e2, _, _⟩
    · left
      simp at e1
      subst e1 e2
      exact ⟨rfl, rfl⟩
    · right
      simp at e1
      subst e1 e2
      rw [c129]
      exact ⟨a, _, rfl, rfl, z.2, by simp⟩
  | [c], _, [], hx, _ => simp at hx

theorem of_laid {W : World} (h : laidMetH Ybad.prog Rows.lawS3236CDependentsRow.laid W) : ∃ a4 a6, Gl W a4 a6 := by
  rw [MakeChecks.laidMetH_plain _ _ _ (by kernel_rfl)] at h
  obtain ⟨ps, ⟨b0, u0, cs0, f0, p0, q0, hg0, ht0, hv0, hd0, ⟨b1, u1, cs1, f1, p1, q1, hg1, ht1, hv1, hd1, ⟨b2, u2, cs2, f2, p2, q2, hg2, ht2, hv2, hd2, hq2, e2⟩, e1⟩, e0⟩, hnd, hfr⟩ := h
  obtain rfl := Option.some.inj (g4.symm.trans hg0)
  obtain rfl := Option.some.inj (g6.symm.trans hg1)
  obtain rfl := Option.some.inj (g0.symm.trans hg2)
  obtain rfl := Option.some.inj (t4.symm.trans ht0)
  obtain rfl := Option.some.inj (t6.symm.trans ht1)
  obtain rfl := Option.some.inj (t0.symm.trans ht2)
  rcases open39 hd0 with ⟨_, k0⟩ | ⟨a4, d4, k0, _, r4, k4⟩
  · simp [Rows.laid_net_netip_z4] at k0
  rcases open39 hd1 with ⟨_, k1⟩ | ⟨a6, d6, k1, _, r6, k6⟩
  · simp [Rows.laid_net_netip_z6noz] at k1
  have k2 : cs2.toList = [.pointer none] := by
    rcases open39 hd2 with ⟨k2, _⟩ | ⟨a0, d0, _, k2, _⟩
    · exact k2
    · simp [Rows.laid_net_netip_z0] at k2
  have x0 := World.var?_cell hg0 hv0 0
  have x1 := World.var?_cell hg1 hv1 0
  have x2 := World.var?_cell hg2 hv2 0
  rw [Array.eq_one_of_toList k0] at x0
  rw [Array.eq_one_of_toList k1] at x1
  rw [Array.eq_one_of_toList k2] at x2
  have m4 : MemPlace.cell a4.block a4.off ∈ p0 := by
    simp only at k4
    rw [k4]
    simp [MemPlace.row, List.range_succ]
  have m6 : MemPlace.cell a6.block a6.off ∈ p1 := by
    simp only at k6
    rw [k6]
    simp [MemPlace.row, List.range_succ]
  have i4 : MemPlace.cell a4.block a4.off ∈ ps := by rw [e0]; simp [m4]
  have i6 : MemPlace.cell a6.block a6.off ∈ ps := by rw [e0, e1]; simp [m6]
  refine ⟨a4, a6, by simpa using x0, by simpa using x1, by simpa using x2, (hfr _ _ i4).1, (hfr _ _ i6).1, fun e => ?_⟩
  subst e
  rw [e0, e1] at hnd
  have h1 := (List.nodup_append.1 hnd).2.2 (MemPlace.cell a4.block a4.off) (by simp [m4]) (MemPlace.cell a4.block a4.off) (by simp [m6])
  exact h1 rfl
end Go.Proofs.YbulkbnzmDoor.Laid
