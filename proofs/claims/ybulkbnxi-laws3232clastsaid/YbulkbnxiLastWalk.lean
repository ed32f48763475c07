import Derived.Test.YbulkbnxiBase
namespace Go.Proofs.Ybulkbnxi.LastWalk
open Go.RowKit Base
set_option linter.unusedVariables false

set_option maxRecDepth 100000 in
theorem walk (a0 : Option Addr) (len0 cap0 : Nat) (z0 : List Int) (w : World) (w0 : Row w a0 len0 cap0 z0) :
    Calls Yba.prog 3 #[.slice a0 len0 cap0] w fun e w' => e = .returned (.bool true) ∧ Below w.heap.size w w' := by
  by_cases hbig : 1024 < len0
  · go_enter Yba.func3, Yba.ntmps3
    go_wp2
    go_ret
    exact ⟨rfl, Below.refl _ _⟩
  obtain ⟨i0, hi, hz0, hz1, hz2⟩ := info_parts Base.info2
  go_enter Yba.func3, Yba.ntmps3
  go_wp2_with (first
      | (at_builtin; refine append_any _ rfl _ _ 22 rfl w.heap.size 2 i0 Yba.underlying22 hi hz0 hz1 hz2 rfl a0 len0 cap0 z0 rfl w0 (by omega) (Nat.le_refl _) ?_; intro vo vcap w1 hown hgr)
      | (go_at_call 5; refine (last_any _ w.heap.size 2 (.slice vo len0 vcap) len0 z0 _ (by omega) (hown.alloc _) ?hc).mono ?_; rotate_left; rintro e w' ⟨rfl, rfl⟩))
  case hc => simp
  have hown2 := hown.alloc (Obj.cells
      #[Value.int IntKind.u32 0, Value.nilIface, Value.int IntKind.i64 0, Value.pointer none, Value.pointer none,
        Value.pointer none, Value.pointer none, Value.bool false, Value.bool false, Value.int IntKind.i64 0,
        Value.int IntKind.i32 0, Value.int IntKind.u32 0, Value.slice vo len0 vcap, Value.slice none 0 0,
        Value.slice none 0 0, Value.map none, Value.map none, Value.slice none 0 0, Value.map none, Value.map none,
        Value.bool false, Value.bool false, Value.int IntKind.i64 0, Value.int IntKind.i64 0]
      42)
  have hbel := ((Below.refl w.heap.size w).grown hgr (Nat.le_refl _) (fun k h => by cases h)).alloc hgr.size (Obj.cells
      #[Value.int IntKind.u32 0, Value.nilIface, Value.int IntKind.i64 0, Value.pointer none, Value.pointer none,
        Value.pointer none, Value.pointer none, Value.bool false, Value.bool false, Value.int IntKind.i64 0,
        Value.int IntKind.i32 0, Value.int IntKind.u32 0, Value.slice vo len0 vcap, Value.slice none 0 0,
        Value.slice none 0 0, Value.map none, Value.map none, Value.slice none 0 0, Value.map none, Value.map none,
        Value.bool false, Value.bool false, Value.int IntKind.i64 0, Value.int IntKind.i64 0]
      42)
  have hk : (w1.alloc (Obj.cells
      #[Value.int IntKind.u32 0, Value.nilIface, Value.int IntKind.i64 0, Value.pointer none, Value.pointer none,
        Value.pointer none, Value.pointer none, Value.bool false, Value.bool false, Value.int IntKind.i64 0,
        Value.int IntKind.i32 0, Value.int IntKind.u32 0, Value.slice vo len0 vcap, Value.slice none 0 0,
        Value.slice none 0 0, Value.map none, Value.map none, Value.slice none 0 0, Value.map none, Value.map none,
        Value.bool false, Value.bool false, Value.int IntKind.i64 0, Value.int IntKind.i64 0]
      42)).cell? ⟨w1.heap.size, 12, none⟩ = some (.slice vo len0 vcap) := by simp
  generalize w1.alloc (Obj.cells _ 42) = W2 at *
  generalize w1.heap.size = kb at *
  have hsrc := row_later w0 hbel
  obtain ⟨hl0, vo', vcap', hv, hnc, hcp⟩ := owns_view hown2
  obtain ⟨rfl, rfl⟩ : vo = vo' ∧ vcap = vcap' := by simpa using hv
  clear hv hown hown2 hgr w0 hi hz0 hz1 hz2
  have HS : Hid (Row W2 a0 len0 cap0 z0) := hsrc
  have HC : Hid (∀ i, i < len0 → ∃ g, vo = some ⟨g, 0, none⟩ ∧ w.heap.size ≤ g ∧ g < W2.heap.size ∧ W2.cell? ⟨g, i, none⟩ = some (.int .i64 (z0.getD i 0))) := hcp
  have HL : Hid (z0.length = len0) := hl0
  clear hsrc hcp hl0
  go_loop [6, 7] (fun t i => ∃ k : Nat, k ≤ len0 ∧ i = .int .i64 k ∧ t = .int .i64 (lastOf (z0.take k))) (fun _ i => len0 - (intOf i).toNat)
  case atStart => exact ⟨0, Nat.zero_le _, rfl, rfl⟩
  case round =>
    obtain ⟨k, hk, rfl, rfl⟩ := hrel
    by_cases hlt : k < len0
    · obtain ⟨x, rfl, hx⟩ := HS.out.2.2.2 k hlt
      have HT : Hid (lastOf (z0.take (k + 1)) = z0.getD k 0) := lastOf_take_succ z0 k (by rw [HL.out]; exact hlt)
      go_wp2
      go_round
      case rel => exact ⟨k + 1, by omega, by go_num, by rw [HT.out]; simp⟩
      case measure => simp [intOf]; omega
    · obtain rfl : k = len0 := by omega
      have HT : z0.take k = z0 := List.take_of_length_le (by rw [HL.out]; exact Nat.le_refl _)
      go_wp2
      clear HT
      go_loopw [8] (fun i wr => ∃ j : Nat, j ≤ k ∧ i = .int .i64 j ∧ ∃ nq, wr = W2.drewN nq) (fun i _ => k - (intOf i).toNat)
      case atStart => exact ⟨0, Nat.zero_le _, rfl, 0, rfl⟩
      case round =>
        obtain ⟨j, hj, rfl, nq, rfl⟩ := hrel
        by_cases hlt : j < k
        · obtain ⟨x, rfl, hx⟩ := HS.out.2.2.2 j hlt
          obtain ⟨g, rfl, _, _, hg⟩ := HC.out j hlt
          have hlt' : (j : Int) < (k : Int) := by omega
          go_wp2
          go_quiet (fail)
          go_wp2
          go_roundw
          case rel => exact ⟨j + 1, by omega, by go_num, _, rfl⟩
          case measure => simp [intOf]; omega
        · go_wp2
          go_ret
          exact ⟨rfl, below_drewN hbel _⟩
end Go.Proofs.Ybulkbnxi.LastWalk
