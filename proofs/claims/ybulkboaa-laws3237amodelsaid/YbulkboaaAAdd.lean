import Derived.Test.YbulkboaaRows
import Derived.Test.YbulkboaaAPlain
import Derived.WalkKit
import Derived.WalkSpells
import Derived.RegionTactic
import Derived.BigRegion
import Derived.Deep.QuietTactic
import Derived.BigQuiet
namespace Go.Proofs.Ybulkboaa.AAdd
open Go.RowKit APlain
set_option linter.unusedVariables false

/-- the set of ends lies at the head of block b -/
structure LE (w : World) (b : Nat) (s : St) : Prop where
  c0 : w.cell? ⟨b, 0, none⟩ = some (.int .i64 s.t0)
  c1 : w.cell? ⟨b, 1, none⟩ = some (.int .i64 s.t1)
  c2 : w.cell? ⟨b, 2, none⟩ = some (.int .i64 s.a0)
  c3 : w.cell? ⟨b, 3, none⟩ = some (.int .i64 s.a1)
  f0 : w.frozen? ⟨b, 0, none⟩ = false
  f1 : w.frozen? ⟨b, 1, none⟩ = false
  f2 : w.frozen? ⟨b, 2, none⟩ = false
  f3 : w.frozen? ⟨b, 3, none⟩ = false

theorem LE.drew {w : World} {b : Nat} {s : St} (h : LE w b s) : LE w.drew b s := ⟨h.c0, h.c1, h.c2, h.c3, h.f0, h.f1, h.f2, h.f3⟩
theorem LE.set0 {w : World} {b : Nat} {s : St} (h : LE w b s) (t : Int) : LE (w.setCell ⟨b, 0, none⟩ (.int .i64 t)) b ⟨t, s.t1, s.a0, s.a1⟩ :=
  ⟨World.cell?_setCell_same _ _ _ h.c0, (World.cell?_setCell_other _ _ _ _ (by simp)).trans h.c1, (World.cell?_setCell_other _ _ _ _ (by simp)).trans h.c2, (World.cell?_setCell_other _ _ _ _ (by simp)).trans h.c3, by simp [h.f0], by simp [h.f1], by simp [h.f2], by simp [h.f3]⟩
theorem LE.set1 {w : World} {b : Nat} {s : St} (h : LE w b s) (t : Int) : LE (w.setCell ⟨b, 1, none⟩ (.int .i64 t)) b ⟨s.t0, t, s.a0, s.a1⟩ :=
  ⟨(World.cell?_setCell_other _ _ _ _ (by simp)).trans h.c0, World.cell?_setCell_same _ _ _ h.c1, (World.cell?_setCell_other _ _ _ _ (by simp)).trans h.c2, (World.cell?_setCell_other _ _ _ _ (by simp)).trans h.c3, by simp [h.f0], by simp [h.f1], by simp [h.f2], by simp [h.f3]⟩
theorem LE.set2 {w : World} {b : Nat} {s : St} (h : LE w b s) (t : Int) : LE (w.setCell ⟨b, 2, none⟩ (.int .i64 t)) b ⟨s.t0, s.t1, t, s.a1⟩ :=
  ⟨(World.cell?_setCell_other _ _ _ _ (by simp)).trans h.c0, (World.cell?_setCell_other _ _ _ _ (by simp)).trans h.c1, World.cell?_setCell_same _ _ _ h.c2, (World.cell?_setCell_other _ _ _ _ (by simp)).trans h.c3, by simp [h.f0], by simp [h.f1], by simp [h.f2], by simp [h.f3]⟩
theorem LE.set3 {w : World} {b : Nat} {s : St} (h : LE w b s) (t : Int) : LE (w.setCell ⟨b, 3, none⟩ (.int .i64 t)) b ⟨s.t0, s.t1, s.a0, t⟩ :=
  ⟨(World.cell?_setCell_other _ _ _ _ (by simp)).trans h.c0, (World.cell?_setCell_other _ _ _ _ (by simp)).trans h.c1, (World.cell?_setCell_other _ _ _ _ (by simp)).trans h.c2, World.cell?_setCell_same _ _ _ h.c3, by simp [h.f0], by simp [h.f1], by simp [h.f2], by simp [h.f3]⟩

set_option maxRecDepth 100000 in
set_option maxHeartbeats 1600000 in
theorem add_first (b : Nat) (s : St) (t a : Int) (w : World) (h : LE w b s) (ht : (t == s.t0) = false) (ha : s.a0 < a) :
    Calls Yba.prog 8 #[.pointer (some ⟨b, 0, none⟩), .int .i64 t, .int .i64 a] w fun e w' => e = .returned (.tuple #[]) ∧ LE w' b ⟨t, s.t0, a, s.a0⟩ ∧ Below b w w' := by
  obtain ⟨t0, t1, a0, a1⟩ := s
  have HK : Hid (LE w b ⟨t0, t1, a0, a1⟩) := h
  obtain ⟨c0, c1, c2, c3, f0, f1, f2, f3⟩ := h
  simp only at c0 c1 c2 c3 ht ha
  go_enter Yba.func8, Yba.ntmps8
  go_wp2
  go_region
  go_wp2
  go_region
  go_wp2
  go_end0
  exact ⟨rfl, ((((HK.out.set1 t0).set3 a0).set0 t).set2 a).drew.drew, (((((Below.refl b w).setCell (by simp) _).setCell (by simp) _).setCell (by simp) _).setCell (by simp) _).drew.drew⟩

set_option maxRecDepth 100000 in
set_option maxHeartbeats 1600000 in
theorem add_second (b : Nat) (s : St) (t a : Int) (w : World) (h : LE w b s) (ht : (t == s.t0) = false) (ha : ¬ s.a0 < a) (ha1 : s.a1 < a) :
    Calls Yba.prog 8 #[.pointer (some ⟨b, 0, none⟩), .int .i64 t, .int .i64 a] w fun e w' => e = .returned (.tuple #[]) ∧ LE w' b ⟨s.t0, t, s.a0, a⟩ ∧ Below b w w' := by
  obtain ⟨t0, t1, a0, a1⟩ := s
  obtain ⟨c0, c1, c2, c3, f0, f1, f2, f3⟩ := h
  have HK : Hid (LE w b ⟨t0, t1, a0, a1⟩) := ⟨c0, c1, c2, c3, f0, f1, f2, f3⟩
  simp only at c0 c1 c2 c3 ht ha ha1
  go_enter Yba.func8, Yba.ntmps8
  go_wp2
  go_region
  go_wp2
  go_end0
  exact ⟨rfl, ((HK.out.set1 t).set3 a).drew, (((Below.refl b w).setCell (by simp) _).setCell (by simp) _).drew⟩

set_option maxRecDepth 100000 in
theorem add_none (b : Nat) (s : St) (t a : Int) (w : World) (h : LE w b s) (ht : (t == s.t0) = false) (ha : ¬ s.a0 < a) (ha1 : ¬ s.a1 < a) :
    Calls Yba.prog 8 #[.pointer (some ⟨b, 0, none⟩), .int .i64 t, .int .i64 a] w fun e w' => e = .returned (.tuple #[]) ∧ LE w' b s ∧ Below b w w' := by
  have hk := h
  obtain ⟨t0, t1, a0, a1⟩ := s
  obtain ⟨c0, c1, c2, c3, f0, f1, f2, f3⟩ := h
  simp only at c0 c1 c2 c3 ht ha ha1
  go_enter Yba.func8, Yba.ntmps8
  go_wp2
  go_end0
  exact ⟨rfl, hk, Below.refl _ _⟩

/-- (*lastEnds).add of a transaction that is not the first one's -/
theorem add_any (b : Nat) (s : St) (t a : Int) (w : World) (h : LE w b s) (ht : (t == s.t0) = false) :
    Calls Yba.prog 8 #[.pointer (some ⟨b, 0, none⟩), .int .i64 t, .int .i64 a] w fun e w' => e = .returned (.tuple #[]) ∧ LE w' b (s.add t a) ∧ Below b w w' := by
  unfold St.add
  by_cases ha : s.a0 < a
  · rw [if_pos ha]; exact add_first b s t a w h ht ha
  · rw [if_neg ha]
    by_cases ha1 : s.a1 < a
    · rw [if_pos ha1]; exact add_second b s t a w h ht ha ha1
    · rw [if_neg ha1]; exact add_none b s t a w h ht ha ha1

theorem LE.drewN {w : World} {b : Nat} {s : St} (h : LE w b s) (n : Nat) : LE (w.drewN n) b s := ⟨h.c0, h.c1, h.c2, h.c3, h.f0, h.f1, h.f2, h.f3⟩
theorem LE.lt {w : World} {b : Nat} {s : St} (h : LE w b s) : b < w.heap.size := World.block_lt_of_cell? w _ h.c0
theorem LE.alloc {w : World} {b : Nat} {s : St} (h : LE w b s) (o : Obj) : LE (w.alloc o) b s := by
  have hc : ∀ j, (w.alloc o).cell? ⟨b, j, none⟩ = w.cell? ⟨b, j, none⟩ := fun j => World.cell?_of_block (w := w) (Below.heap_alloc _ _ _ h.lt)
  have hf : ∀ j, (w.alloc o).frozen? ⟨b, j, none⟩ = w.frozen? ⟨b, j, none⟩ := fun j => World.frozen?_of_block (w := w) (Below.heap_alloc _ _ _ h.lt)
  exact ⟨(hc 0).trans h.c0, (hc 1).trans h.c1, (hc 2).trans h.c2, (hc 3).trans h.c3, (hf 0).trans h.f0, (hf 1).trans h.f1, (hf 2).trans h.f2, (hf 3).trans h.f3⟩

/-- (*lastEnds).without, of a transaction that is not the first one's -/
theorem without_other (b : Nat) (s : St) (t : Int) (w : World) (h : LE w b s) (ht : (s.t0 == t) = false) :
    Calls Yba.prog 9 #[.pointer (some ⟨b, 0, none⟩), .int .i64 t] w fun e w' => e = .returned (.int .i64 s.a0) ∧ w' = w := by
  obtain ⟨t0, t1, a0, a1⟩ := s
  obtain ⟨c0, c1, c2, c3, f0, f1, f2, f3⟩ := h
  simp only at c0 c1 c2 c3 ht
  go_enter Yba.func9, Yba.ntmps9
  go_wp2
  go_ret
  exact ⟨rfl, rfl⟩
end Go.Proofs.Ybulkboaa.AAdd
