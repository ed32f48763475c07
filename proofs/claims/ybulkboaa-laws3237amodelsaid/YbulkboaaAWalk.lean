import Derived.Test.YbulkboaaAAdd
import Derived.Deep.QuietTactic
import Derived.BigQuiet
namespace Go.Proofs.Ybulkboaa.AWalk
open Go.RowKit APlain AAdd
set_option linter.unusedVariables false

theorem below_drewN {B : Nat} {a w : World} (h : Below B a w) (n : Nat) : Below B a (w.drewN n) := h.trans ⟨rfl, rfl, rfl, Nat.le_refl _, fun _ _ => rfl⟩

/-- WHAT A WALK IS TOLD OF A SLICE OF INTEGERS THAT CAME IN: each element under its number. -/
def Row (w : World) (a : Option Addr) (len : Nat) (zs : List Int) : Prop :=
  zs.length = len ∧ ∀ i, i < len → ∃ x, a = some x ∧ w.cell? (x.add i) = some (.int .i64 (zs.getD i 0))

theorem row_later {w w' : World} {a : Option Addr} {len : Nat} {zs : List Int} (h : Row w a len zs) (hb : Below w.heap.size w w') : Row w' a len zs :=
  ⟨h.1, fun i hi => by
    obtain ⟨x, hx, hc⟩ := h.2 i hi
    have hlt := World.block_lt_of_cell? w _ hc
    exact ⟨x, hx, (hb.cell hlt).trans hc⟩⟩

theorem eq24 (a b c d : Int) (w : World) : (Op.equalIn 10000 24 (.agg #[.int .i64 a, .int .i64 b]) (.agg #[.int .i64 c, .int .i64 d])).run Yba.prog w = .ok (a == c && b == d) w := by
  have u3 := Yba.underlying23
  have a3 := Yba.isAgg23
  have z3 := Yba.sizeOf23
  rw [show (10000 : Nat) = 9999 + 1 from rfl, Op.equalIn]
  simp only [Sem.run_bind, run_underlying Yba.underlying24, Result.andThen_ok]
  simp only [Std.Legacy.Range.forIn_eq_forIn_range', Std.Legacy.Range.size, Nat.sub_zero, Nat.add_sub_cancel, Nat.div_one, List.range'_succ, List.range'_zero, List.forIn_cons, List.forIn_nil]
  go_simp
  by_cases h1 : a = c <;> by_cases h2 : b = d <;> simp [h1, h2]

theorem eq25 (a b c d : Int) (w : World) : (Op.equalIn 10000 25 (.agg #[.int .i64 a, .int .i64 b]) (.agg #[.int .i64 c, .int .i64 d])).run Yba.prog w = .ok (a == c && b == d) w := by
  have u3 := Yba.underlying3
  have a3 := Yba.isAgg3
  have z3 := Yba.sizeOf3
  rw [show (10000 : Nat) = 9999 + 1 from rfl, Op.equalIn]
  simp only [Sem.run_bind, run_underlying Yba.underlying25, Result.andThen_ok]
  simp only [Std.Legacy.Range.forIn_eq_forIn_range', Std.Legacy.Range.size, Nat.sub_zero, Nat.add_sub_cancel, Nat.div_one, List.range'_succ, List.range'_zero, List.forIn_cons, List.forIn_nil]
  go_simp
  by_cases h1 : a = c <;> by_cases h2 : b = d <;> simp [h1, h2]

theorem neq24 (a b c d : Int) (w : World) : (binOp .neq 24 (.agg #[.int .i64 a, .int .i64 b]) (.agg #[.int .i64 c, .int .i64 d])).run Yba.prog w = .ok (.bool (!(a == c && b == d))) w := by
  rw [run_neq_struct, eq24]; rfl
theorem neq25 (a b c d : Int) (w : World) : (binOp .neq 25 (.agg #[.int .i64 a, .int .i64 b]) (.agg #[.int .i64 c, .int .i64 d])).run Yba.prog w = .ok (.bool (!(a == c && b == d))) w := by
  rw [run_neq_struct, eq25]; rfl

/-- the test of the first search, each way with what it leaves -/
theorem b0_ways (z : List Int) (j : Nat) : (b0 z j = -1 ∨ ∃ m : Nat, b0 z j = (m : Int) ∧ m < j) := by
  have h := b0_inv z j
  rcases Int.lt_or_le (b0 z j) 0 with hn | hn
  · exact .inl (by omega)
  · exact .inr ⟨(b0 z j).toNat, by omega, by omega⟩
theorem b1_ways (z : List Int) (B : Int) (j : Nat) : (b1 z B j = -1 ∨ ∃ m : Nat, b1 z B j = (m : Int) ∧ m < j) := by
  have h := b1_inv z B j
  rcases Int.lt_or_le (b1 z B j) 0 with hn | hn
  · exact .inl (by omega)
  · exact .inr ⟨(b1 z B j).toNat, by omega, by omega⟩
theorem val_nat (z : List Int) (m : Nat) : val z (m : Int) = z.getD m 0 := by unfold val; rw [if_neg (by omega)]; simp

set_option maxRecDepth 100000 in
set_option maxHeartbeats 1600000 in
theorem walk (a0 : Option Addr) (len0 cap0 : Nat) (z0 : List Int) (w : World) (w0 : Row w a0 len0 z0) (hm : len0 ≤ maxLen) :
    Calls Yba.prog 3 #[.slice a0 len0 cap0] w fun e w' => e = .returned (.bool true) ∧ Below w.heap.size w w' := by
  unfold maxLen at hm
  by_cases hbig : 4096 < len0
  · go_enter Yba.func3, Yba.ntmps3
    go_wp2
    go_ret
    exact ⟨rfl, Below.refl _ _⟩
  have H0 : Hid (Row w a0 len0 z0) := w0
  clear w0
  go_enter Yba.func3, Yba.ntmps3
  go_wp2
  go_loopw [4] (fun i wr => ∃ k : Nat, k ≤ len0 ∧ i = .int .i64 k ∧ LE wr w.heap.size (st z0 k) ∧ Below w.heap.size w wr) (fun i _ => len0 - (intOf i).toNat)
  case atStart => exact ⟨0, Nat.zero_le _, rfl, ⟨by simp [st], by simp [st], by simp [st], by simp [st], by simp, by simp, by simp, by simp⟩, (Below.refl _ _).alloc (Nat.le_refl _) _⟩
  case round =>
    obtain ⟨k, hk, rfl, hle, hb⟩ := hrel
    by_cases hlt : k < len0
    · obtain ⟨x, rfl, hx0⟩ := H0.out.2 k hlt
      have hx : wr.cell? (x.add k) = some (.int .i64 (z0.getD k 0)) := (hb.cell (World.block_lt_of_cell? w _ hx0)).trans hx0
      clear hx0
      have HL : Hid (LE wr w.heap.size (st z0 k)) := hle
      have HN : Hid ((((k : Int) + 1) == (st z0 k).t0) = false) := by
        have h := b0_inv z0 k
        rw [st_eq]
        show (((k : Int) + 1) == b0 z0 k + 1) = false
        rw [beq_eq_false_iff_ne]; omega
      clear hle
      go_wp2_with (go_at_call 8; refine (add_any w.heap.size (st z0 k) _ _ _ HL.out HN.out).mono ?_; rintro e w2 ⟨rfl, hle2, hb2⟩)
      go_roundw
      case rel => exact ⟨k + 1, by omega, by go_num, by simpa [st] using hle2, hb.trans hb2⟩
      case measure => simp [intOf]; omega
    · obtain rfl : k = len0 := by omega
      have HL : Hid (LE wr w.heap.size (st z0 k)) := hle
      have K0 : Hid (Row wr a0 k z0) := row_later H0.out hb
      clear hle H0
      go_wp2
      go_loopw [5, 6] (fun t i ww => ∃ j : Nat, j ≤ k ∧ i = .int .i64 j ∧ t = .int .i64 (b0 z0 j) ∧ ∃ nq, ww = wr.drewN nq) (fun _ i _ => k - (intOf i).toNat)
      case atStart => exact ⟨0, Nat.zero_le _, rfl, rfl, 0, rfl⟩
      case round =>
        obtain ⟨j, hj, rfl, rfl, nq, rfl⟩ := hrel
        by_cases hlt2 : j < k
        · obtain ⟨x, rfl, hx⟩ := K0.out.2 j hlt2
          have hlt' : (j : Int) < (k : Int) := by omega
          have HT : Hid (b0 z0 (j + 1) = if 0 < z0.getD j 0 ∧ (b0 z0 j < 0 ∨ val z0 (b0 z0 j) < z0.getD j 0) then (j : Int) else b0 z0 j) := rfl
          rcases b0_ways z0 j with hb0 | ⟨m, hb0, hmj⟩
          · rw [hb0] at HT ⊢
            clear hb0
            generalize hz : z0.getD j 0 = z at *
            clear hz
            by_cases hp : 0 < z
            · go_wp2
              go_quiet (fail)
              go_wp2
              go_roundw
              case rel => exact ⟨j + 1, by omega, by go_num, by rw [HT.out, if_pos ⟨hp, .inl (by decide)⟩], _, rfl⟩
              case measure => simp [intOf]; omega
            · have hd : decide (0 < z) = false := by simpa using hp
              go_wp2
              go_quiet (fail)
              go_wp2
              go_roundw
              case rel => exact ⟨j + 1, by omega, by go_num, by rw [HT.out, if_neg (by omega)], _, rfl⟩
              case measure => simp [intOf]; omega
          · obtain ⟨y, hy, hym⟩ := K0.out.2 m (by omega)
            cases hy
            rw [hb0, val_nat] at HT
            rw [hb0]
            clear hb0
            have hmk : (m : Int) < (k : Int) := by omega
            generalize hz : z0.getD j 0 = z at *
            generalize hzm : z0.getD m 0 = zm at *
            clear hz hzm
            have hmn : decide ((m : Int) < 0) = false := by simp
            by_cases hp : 0 < z
            · by_cases hq : zm < z
              · go_wp2
                go_quiet (fail)
                go_wp2
                go_roundw
                case rel => exact ⟨j + 1, by omega, by go_num, by rw [HT.out, if_pos ⟨hp, .inr hq⟩], _, rfl⟩
                case measure => simp [intOf]; omega
              · go_wp2
                go_quiet (fail)
                go_wp2
                go_roundw
                case rel => exact ⟨j + 1, by omega, by go_num, by rw [HT.out, if_neg (by omega)], _, rfl⟩
                case measure => simp [intOf]; omega
            · have hd : decide (0 < z) = false := by simpa using hp
              go_wp2
              go_quiet (fail)
              go_wp2
              go_roundw
              case rel => exact ⟨j + 1, by omega, by go_num, by rw [HT.out, if_neg (by omega)], _, rfl⟩
              case measure => simp [intOf]; omega
        · obtain rfl : j = k := by omega
          have HB : ∃ B, Hid (b0 z0 j = B) ∧ -1 ≤ B ∧ B < j := ⟨_, rfl, (b0_inv z0 j).1, (b0_inv z0 j).2.1⟩
          obtain ⟨B, HB, hB0, hB1⟩ := HB
          rw [HB.out]
          go_wp2
          go_loopw [7, 8] (fun t i ww => ∃ l : Nat, l ≤ j ∧ i = .int .i64 l ∧ t = .int .i64 (b1 z0 B l) ∧ ∃ nq, ww = wr.drewN nq) (fun _ i _ => j - (intOf i).toNat)
          case atStart => exact ⟨0, Nat.zero_le _, rfl, rfl, _, rfl⟩
          case round =>
            obtain ⟨l, hl, rfl, rfl, nq2, rfl⟩ := hrel
            by_cases hlt3 : l < j
            · obtain ⟨x, rfl, hx⟩ := K0.out.2 l hlt3
              have hlt' : (l : Int) < (j : Int) := by omega
              have HT : Hid (b1 z0 B (l + 1) = if (l : Int) ≠ B ∧ 0 < z0.getD l 0 ∧ (b1 z0 B l < 0 ∨ val z0 (b1 z0 B l) < z0.getD l 0) then (l : Int) else b1 z0 B l) := rfl
              by_cases hlB : (l : Int) = B
              · have hne : ((l : Int) != B) = false := by simp [hlB]
                have HL2 : Hid ((l : Int) = B) := hlB
                clear hlB
                generalize hbb : b1 z0 B l = bb at *
                clear hbb
                go_wp2
                go_quiet (fail)
                go_wp2
                go_roundw
                case rel => exact ⟨l + 1, by omega, by go_num, by rw [HT.out, if_neg (fun h => h.1 HL2.out)], _, rfl⟩
                case measure => simp [intOf]; omega
              · have hne : ((l : Int) != B) = true := by simp [hlB]
                have HL2 : Hid ((l : Int) ≠ B) := hlB
                clear hlB
                rcases b1_ways z0 B l with hb1 | ⟨m, hb1, hmj⟩
                · rw [hb1] at HT ⊢
                  clear hb1
                  generalize hz : z0.getD l 0 = z at *
                  clear hz
                  by_cases hp : 0 < z
                  · go_wp2
                    go_quiet (fail)
                    go_wp2
                    go_roundw
                    case rel => exact ⟨l + 1, by omega, by go_num, by rw [HT.out, if_pos ⟨HL2.out, hp, .inl (by decide)⟩], _, rfl⟩
                    case measure => simp [intOf]; omega
                  · have hd : decide (0 < z) = false := by simpa using hp
                    go_wp2
                    go_quiet (fail)
                    go_wp2
                    go_roundw
                    case rel => exact ⟨l + 1, by omega, by go_num, by rw [HT.out, if_neg (by omega)], _, rfl⟩
                    case measure => simp [intOf]; omega
                · obtain ⟨y, hy, hym⟩ := K0.out.2 m (by omega)
                  cases hy
                  rw [hb1, val_nat] at HT
                  rw [hb1]
                  clear hb1
                  have hmk : (m : Int) < (j : Int) := by omega
                  generalize hz : z0.getD l 0 = z at *
                  generalize hzm : z0.getD m 0 = zm at *
                  clear hz hzm
                  have hmn : decide ((m : Int) < 0) = false := by simp
                  by_cases hp : 0 < z
                  · by_cases hq : zm < z
                    · go_wp2
                      go_quiet (fail)
                      go_wp2
                      go_roundw
                      case rel => exact ⟨l + 1, by omega, by go_num, by rw [HT.out, if_pos ⟨HL2.out, hp, .inr hq⟩], _, rfl⟩
                      case measure => simp [intOf]; omega
                    · go_wp2
                      go_quiet (fail)
                      go_wp2
                      go_roundw
                      case rel => exact ⟨l + 1, by omega, by go_num, by rw [HT.out, if_neg (by omega)], _, rfl⟩
                      case measure => simp [intOf]; omega
                  · have hd : decide (0 < z) = false := by simpa using hp
                    go_wp2
                    go_quiet (fail)
                    go_wp2
                    go_roundw
                    case rel => exact ⟨l + 1, by omega, by go_num, by rw [HT.out, if_neg (by omega)], _, rfl⟩
                    case measure => simp [intOf]; omega
            · obtain rfl : l = j := by omega
              have hst : st z0 l = ⟨B + 1, b1 z0 B l + 1, val z0 B, val z0 (b1 z0 B l)⟩ := by rw [st_eq, HB.out]
              have hle := HL.out.drewN nq2
              rw [hst] at hle
              have hbW : Below w.heap.size w (wr.drewN nq2) := below_drewN hb _
              have KW : Hid (∀ i, i < l → ∃ x, a0 = some x ∧ (wr.drewN nq2).cell? (x.add i) = some (.int .i64 (z0.getD i 0))) := K0.out.2
              clear hst HL K0 hb HB
              generalize wr.drewN nq2 = W at *
              have hn24 := neq24
              have hn25 := neq25
              have hbs := hle.lt
              have hbs1 : w.heap.size < W.heap.size + 1 := by omega
              have hbs2 : w.heap.size < W.heap.size + 1 + 1 := by omega
              have HN : Hid (((B + 1) == ((l : Int) + 1)) = false) := by show ((B + 1) == ((l : Int) + 1)) = false; rw [beq_eq_false_iff_ne]; omega
              rcases b1_ways z0 B l with hb1 | ⟨m1, hb1, hm1⟩
              · rw [hb1] at hle ⊢
                rw [val_neg z0 (-1) (by decide)] at hle
                clear hb1
                rcases (show B = -1 ∨ ∃ m : Nat, B = (m : Int) ∧ m < l from by rcases Int.lt_or_le B 0 with hn | hn; exact .inl (by omega); exact .inr ⟨B.toNat, by omega, by omega⟩) with rfl | ⟨m0, rfl, hm0⟩
                · rw [val_neg z0 (-1) (by decide)] at hle
                  have HLE : Hid (LE W w.heap.size ⟨0, 0, 0, 0⟩) := hle
                  have HN' : Hid (((0 : Int) == ((l : Int) + 1)) = false) := HN
                  obtain ⟨c0, c1, c2, c3, f0, f1, f2, f3⟩ := HLE.out
                  clear hle HN KW
                  go_wp2
                  go_quiet ((go_at_call 9; exact Calls.quiet_of_same (without_other w.heap.size ⟨0, 0, 0, 0⟩ _ _ (((HLE.out.alloc _).alloc _).drewN _) HN'.out)))
                  go_wp2
                  go_ret
                  exact ⟨rfl, below_drewN ((hbW.alloc hbW.size _).alloc (by have := hbW.size; simp; omega) _) _⟩
                · obtain ⟨x, rfl, hx⟩ := KW.out m0 hm0
                  have hx1 : (x.add m0).block < W.heap.size := World.block_lt_of_cell? W _ hx
                  rw [val_nat] at hle
                  generalize z0.getD m0 0 = zm at *
                  have HLE : Hid (LE W w.heap.size ⟨(m0 : Int) + 1, 0, zm, 0⟩) := hle
                  obtain ⟨c0, c1, c2, c3, f0, f1, f2, f3⟩ := HLE.out
                  clear hle KW
                  go_wp2
                  go_quiet ((go_at_call 9; exact Calls.quiet_of_same (without_other w.heap.size ⟨(m0 : Int) + 1, 0, zm, 0⟩ _ _ (((HLE.out.alloc _).alloc _).drewN _) HN.out)))
                  go_wp2
                  go_ret
                  exact ⟨rfl, below_drewN ((hbW.alloc hbW.size _).alloc (by have := hbW.size; simp; omega) _) _⟩
              · rw [hb1, val_nat] at hle
                rw [hb1]
                clear hb1
                rcases (show B = -1 ∨ ∃ m : Nat, B = (m : Int) ∧ m < l from by rcases Int.lt_or_le B 0 with hn | hn; exact .inl (by omega); exact .inr ⟨B.toNat, by omega, by omega⟩) with rfl | ⟨m0, rfl, hm0⟩
                · obtain ⟨y, rfl, hy⟩ := KW.out m1 hm1
                  have hy1 : (y.add m1).block < W.heap.size := World.block_lt_of_cell? W _ hy
                  rw [val_neg z0 (-1) (by decide)] at hle
                  generalize z0.getD m1 0 = zn at *
                  have HLE : Hid (LE W w.heap.size ⟨0, (m1 : Int) + 1, 0, zn⟩) := hle
                  obtain ⟨c0, c1, c2, c3, f0, f1, f2, f3⟩ := HLE.out
                  clear hle KW
                  go_wp2
                  go_quiet ((go_at_call 9; exact Calls.quiet_of_same (without_other w.heap.size ⟨0, (m1 : Int) + 1, 0, zn⟩ _ _ (((HLE.out.alloc _).alloc _).drewN _) HN.out)))
                  go_wp2
                  go_ret
                  exact ⟨rfl, below_drewN ((hbW.alloc hbW.size _).alloc (by have := hbW.size; simp; omega) _) _⟩
                · obtain ⟨x, hxa, hx⟩ := KW.out m0 hm0
                  obtain ⟨y, hya, hy⟩ := KW.out m1 hm1
                  subst hxa
                  cases hya
                  have hx1 : (x.add m0).block < W.heap.size := World.block_lt_of_cell? W _ hx
                  have hy1 : (x.add m1).block < W.heap.size := World.block_lt_of_cell? W _ hy
                  rw [val_nat] at hle
                  generalize z0.getD m0 0 = zm at *
                  generalize z0.getD m1 0 = zn at *
                  have HLE : Hid (LE W w.heap.size ⟨(m0 : Int) + 1, (m1 : Int) + 1, zm, zn⟩) := hle
                  obtain ⟨c0, c1, c2, c3, f0, f1, f2, f3⟩ := HLE.out
                  clear hle KW
                  go_wp2
                  go_quiet ((go_at_call 9; exact Calls.quiet_of_same (without_other w.heap.size ⟨(m0 : Int) + 1, (m1 : Int) + 1, zm, zn⟩ _ _ (((HLE.out.alloc _).alloc _).drewN _) HN.out)))
                  go_wp2
                  go_ret
                  exact ⟨rfl, below_drewN ((hbW.alloc hbW.size _).alloc (by have := hbW.size; simp; omega) _) _⟩
end Go.Proofs.Ybulkboaa.AWalk
