import Derived.Test.YbulkbnxiKnown
namespace Go.Proofs.Ybulkbnxi.KnownWalk
open Go.RowKit Base Known
set_option linter.unusedVariables false

theorem info46 : (Yba.prog.info? 46).map (fun i => (i.zero, i.size, i.bytes)) = some (some (.agg #[.int .i64 0, .int .i64 0, .int .i64 0]), 3, 24) := by kernel_rfl

/-- two rows of different element types lie in different blocks -/
theorem rows_apart {w : World} {b1 b2 e1 e2 s1 s2 : Nat} {v1 v2 : Value} {n1 n2 : Nat} {xs ys : List Value} (h : w.ownsRow b1 e1 s1 v1 n1 xs) (k : w.ownsRow b2 e2 s2 v2 n2 ys) (hne : e1 ≠ e2) :
    v1.ownBlock = none ∨ v1.ownBlock ≠ v2.ownBlock := by
  rcases h.2 with ⟨rfl, _⟩ | ⟨g, cap, cur, rfl, _, hg, _⟩
  · exact .inl rfl
  · refine .inr fun e => ?_
    rcases k.2 with ⟨rfl, _⟩ | ⟨g', cap', cur', rfl, _, hg', _⟩
    · cases e
    · simp only [Value.ownBlock, Option.some.injEq] at e
      subst e
      rw [hg] at hg'
      simp only [Option.some.injEq, Obj.cells.injEq] at hg'
      exact hne hg'.2.1

/-- one more deletion appended: what the round leaves -/
theorem round_rel {w wr w1 : World} {B : Nat} {o : Obj} {ro vo : Option Addr} {n0 rcap k vcap : Nat} {z0 z1 : List Int} {v' : Value} (hB : B ≤ wr.heap.size) (hk : k < z1.length)
    (hrec : wr.ownsRow B 2 1 (.slice ro n0 rcap) n0 (z0.map (Value.int .i64))) (hdel : wr.ownsRow B 46 3 (.slice vo k vcap) k (delCells (z1.take k))) (hbel : Below B w wr)
    (hown' : w1.ownsRow B 46 3 v' (k + 1) (delCells (z1.take k) ++ [.int .i64 (z1.getD k 0), .int .i64 0, .int .i64 0])) (hgr : (wr.alloc o).grownBy w1 (Value.slice vo k vcap).ownBlock) :
    (∃ vo' vcap', v' = .slice vo' (k + 1) vcap' ∧ w1.ownsRow B 46 3 (.slice vo' (k + 1) vcap') (k + 1) (delCells (z1.take (k + 1)))) ∧
    w1.ownsRow B 2 1 (.slice ro n0 rcap) n0 (z0.map (Value.int .i64)) ∧ Below B w w1 := by
  have e : delCells (z1.take (k + 1)) = delCells (z1.take k) ++ [.int .i64 (z1.getD k 0), .int .i64 0, .int .i64 0] := by
    rw [List.take_succ_eq_append_getElem hk, delCells_append]
    simp [delCells, List.getD_eq_getElem?_getD, hk]
  rw [← e] at hown'
  obtain ⟨_, vo', vcap', rfl, _⟩ := dels_view hown'
  refine ⟨⟨vo', vcap', rfl, hown'⟩, (hrec.alloc o).kept hgr (rows_apart hrec hdel (by decide)), ?_⟩
  exact (hbel.alloc hB o).grown hgr (by simp; omega) (fun j hj => (hdel.lt j hj).1)

/-- Known, called on the keeper that the law has made -/
theorem known_at {w wr : World} {B : Nat} {ro vo : Option Addr} {n0 rcap n1 vcap : Nat} {z0 z1 : List Int} (hB : B ≤ wr.heap.size) (hn0 : n0 ≤ 1024) (hn1 : n1 ≤ 1024)
    (hrec : wr.ownsRow B 2 1 (.slice ro n0 rcap) n0 (z0.map (Value.int .i64))) (hdel : wr.ownsRow B 46 3 (.slice vo n1 vcap) n1 (delCells z1)) (hbel : Below B w wr) :
    Calls Yba.prog 6 #[Value.pointer (some { block := wr.heap.size, off := 0 })]
  (wr.alloc
    (Obj.cells
      #[Value.int IntKind.u32 0, Value.nilIface, Value.int IntKind.i64 0, Value.pointer none, Value.pointer none,
        Value.pointer none, Value.pointer none, Value.bool false, Value.bool false, Value.int IntKind.i64 0,
        Value.int IntKind.i32 0, Value.int IntKind.u32 0, Value.slice ro n0 rcap, Value.slice none 0 0,
        Value.slice vo n1 vcap, Value.map none, Value.map none, Value.slice none 0 0, Value.map none, Value.map none,
        Value.bool false, Value.bool false, Value.int IntKind.i64 0, Value.int IntKind.i64 0]
      42)) fun e w' => e = .returned (.int .i64 (best (lastOf z0) z1)) ∧ Below B w w' := by
  have hd2 := hdel.alloc (Obj.cells
      #[Value.int IntKind.u32 0, Value.nilIface, Value.int IntKind.i64 0, Value.pointer none, Value.pointer none,
        Value.pointer none, Value.pointer none, Value.bool false, Value.bool false, Value.int IntKind.i64 0,
        Value.int IntKind.i32 0, Value.int IntKind.u32 0, Value.slice ro n0 rcap, Value.slice none 0 0,
        Value.slice vo n1 vcap, Value.map none, Value.map none, Value.slice none 0 0, Value.map none, Value.map none,
        Value.bool false, Value.bool false, Value.int IntKind.i64 0, Value.int IntKind.i64 0]
      42)
  obtain ⟨hl, vo', vcap', hv, hnc, _⟩ := dels_view hdel
  obtain ⟨_, vo2, vcap2, hv2, _, hc⟩ := dels_view hd2
  obtain ⟨rfl, rfl⟩ : vo = vo' ∧ vcap = vcap' := by simpa using hv
  obtain ⟨rfl, rfl⟩ : vo = vo2 ∧ vcap = vcap2 := by simpa using hv2
  refine (known_any B wr.heap.size (.slice ro n0 rcap) n0 z0 vo vcap n1 z1 _ hB (by simp) hn0 hn1 hnc hl (by simp) (by simp) (by simp) (by simp) ?_ ?_).mono ?_
  · refine ownsRow_setCell_other (hrec.alloc _) (fun e => ?_) _
    have := (hrec.lt _ e).2
    simp at this
  · intro i hi
    obtain ⟨g, hg, hb, hlt, h0, h1, h2⟩ := hc i hi
    have := (hdel.lt g (by rw [hg]; rfl)).2
    exact ⟨g, hg, hlt, by omega, h0, h1, h2⟩
  · rintro e w' ⟨rfl, hb⟩
    exact ⟨rfl, (hbel.alloc hB _).trans hb⟩

theorem best_all (m : Int) (z : List Int) (k : Nat) (h : z.length = k) : best m (z.take k) = best m z := by rw [List.take_of_length_le (by omega)]

set_option maxRecDepth 100000 in
set_option maxHeartbeats 800000 in
theorem walk (a0 : Option Addr) (len0 cap0 : Nat) (z0 : List Int) (a1 : Option Addr) (len1 cap1 : Nat) (z1 : List Int) (w : World) (w0 : Row w a0 len0 cap0 z0) (w1 : Row w a1 len1 cap1 z1) :
    Calls Yba.prog 4 #[.slice a0 len0 cap0, .slice a1 len1 cap1] w fun e w' => e = .returned (.bool true) ∧ Below w.heap.size w w' := by
  by_cases hbig : 1024 < len0
  · go_enter Yba.func4, Yba.ntmps4
    go_wp2
    go_ret
    exact ⟨rfl, Below.refl _ _⟩
  by_cases hbig1 : 1024 < len1
  · go_enter Yba.func4, Yba.ntmps4
    go_wp2
    go_ret
    exact ⟨rfl, Below.refl _ _⟩
  obtain ⟨i0, hi, hz0, hz1, hz2⟩ := info_parts Base.info2
  go_enter Yba.func4, Yba.ntmps4
  go_wp2_with (at_builtin; refine append_any _ rfl _ _ 22 rfl w.heap.size 2 i0 Yba.underlying22 hi hz0 hz1 hz2 rfl a0 len0 cap0 z0 rfl w0 (by omega) (Nat.le_refl _) ?_; intro ro rcap wa hown hgr)
  clear hi hz0 hz1 hz2
  obtain ⟨i1, hi, hz0, hz1, hz2⟩ := info_parts info46
  have hbel := ((Below.refl w.heap.size w).grown hgr (Nat.le_refl _) (fun k h => by cases h))
  have H0 : Hid (Row w a0 len0 cap0 z0) := w0
  have H1 : Hid (Row w a1 len1 cap1 z1) := w1
  clear w0 w1 hgr
  go_loopw [6, 7] (fun v i wr => ∃ k : Nat, k ≤ len1 ∧ i = .int .i64 k ∧ ∃ vo vcap, v = .slice vo k vcap ∧ wr.ownsRow w.heap.size 46 3 (.slice vo k vcap) k (delCells (z1.take k)) ∧ wr.ownsRow w.heap.size 2 1 (.slice ro len0 rcap) len0 (z0.map (Value.int .i64)) ∧ Below w.heap.size w wr)
    (fun _ i _ => len1 - (intOf i).toNat)
  case atStart => exact ⟨0, Nat.zero_le _, rfl, none, 0, rfl, World.ownsRow_nil _ _ _ _, hown, hbel⟩
  case round =>
    obtain ⟨k, hk, rfl, vo, vcap, rfl, hdel, hrec, hb⟩ := hrel
    clear hown hbel
    have hsz := hb.size
    by_cases hlt : k < len1
    · obtain ⟨x, rfl, hx0⟩ := H1.out.2.2.2 k hlt
      have hx : wr.cell? (x.add k) = some (.int .i64 (z1.getD k 0)) := (hb.cell (World.block_lt_of_cell? w _ hx0)).trans hx0
      clear hx0
      go_wp2_with (at_builtin; refine wpList_append_own _ rfl _ _ 35 rfl w.heap.size 46 i1 (.agg #[.int .i64 0, .int .i64 0, .int .i64 0]) 3 24 Yba.underlying35 hi hz0 hz1 hz2 rfl (by decide) _ _ _ rfl (hdel.alloc _) ⟨wr.heap.size, 0, none⟩ 1 1 [.int .i64 (z1.getD k 0), .int .i64 0, .int .i64 0] rfl rfl ?c1 ?c2 ?c3 ?c4 ?c5 ?_)
      case c1 =>
        intro j u hj
        match j, hj with
        | 0, hj => simp at hj; subst hj; simp [Addr.add]
        | 1, hj => simp at hj; subst hj; simp [Addr.add]
        | 2, hj => simp at hj; subst hj; simp [Addr.add]
      case c2 => intro u hu; simp at hu; rcases hu with rfl | rfl <;> rfl
      case c3 => unfold maxLen; omega
      case c4 => omega
      case c5 => simp; omega
      · intro v' w1 hown' hgr' _
        have R := round_rel hsz (by rw [H1.out.1]; exact hlt) hrec hdel hb hown' hgr'
        clear hown' hgr' hrec hdel hx
        obtain ⟨⟨vo', vcap', rfl, R1⟩, R2, R3⟩ := R
        go_wp2
        go_roundw
        case rel => exact ⟨k + 1, by omega, by go_num, vo', vcap', rfl, R1, R2, R3⟩
        case measure => simp [intOf]; omega
    · obtain rfl : k = len1 := by omega
      rw [List.take_of_length_le (by rw [H1.out.1]; exact Nat.le_refl _)] at hdel
      have HR : Hid (wr.ownsRow w.heap.size 2 1 (.slice ro len0 rcap) len0 (z0.map (Value.int .i64))) := hrec
      have HD : Hid (wr.ownsRow w.heap.size 46 3 (.slice vo k vcap) k (delCells z1)) := hdel
      clear hrec hdel hi hz0 hz1 hz2
      by_cases hpos : 0 < len0
      · go_wp2_with (go_at_call 6; refine (known_at hsz (by omega) (by omega) HR.out HD.out hb).mono ?_; rintro e w2 ⟨rfl, hb2⟩; obtain ⟨x, rfl, hx⟩ := (row_later H0.out hb2).2.2.2 (len0 - 1) (by omega))
        have K1 : Hid (Row w2 a1 k cap1 z1) := row_later H1.out hb2
        have HZ : Hid (z0.length = len0) := H0.out.1
        clear HR HD H0 H1 hx
        go_loop [10, 11] (fun t i => ∃ j : Nat, j ≤ k ∧ i = .int .i64 j ∧ t = .int .i64 (best (lastOf z0) (z1.take j))) (fun _ i => k - (intOf i).toNat)
        case atStart => exact ⟨0, Nat.zero_le _, rfl, by simp only [List.take_zero]; show Value.int .i64 _ = .int .i64 (lastOf z0); rw [lastOf_eq z0 (len0 - 1) (by rw [HZ.out]; omega)]; simp⟩
        case round =>
          obtain ⟨j, hj, rfl, rfl⟩ := hrel
          by_cases hlt2 : j < k
          · obtain ⟨x1, rfl, hx1⟩ := K1.out.2.2.2 j hlt2
            have HT : Hid (best (lastOf z0) (z1.take (j + 1)) = if best (lastOf z0) (z1.take j) < z1.getD j 0 then z1.getD j 0 else best (lastOf z0) (z1.take j)) := best_snoc _ _ _ (by rw [K1.out.1]; exact hlt2)
            generalize best (lastOf z0) (z1.take j) = m at *
            generalize z1.getD j 0 = z at *
            by_cases hmz : m < z
            · go_wp2
              go_round
              case rel => exact ⟨j + 1, by omega, by go_num, by rw [HT.out, if_pos hmz]⟩
              case measure => simp [intOf]; omega
            · go_wp2
              go_round
              case rel => exact ⟨j + 1, by omega, by go_num, by rw [HT.out, if_neg hmz]⟩
              case measure => simp [intOf]; omega
          · obtain rfl : j = k := by omega
            have HT := best_all (lastOf z0) z1 j K1.out.1
            go_wp2
            go_ret
            exact ⟨by simp, hb2⟩
      · go_wp2_with (go_at_call 6; refine (known_at hsz (by omega) (by omega) HR.out HD.out hb).mono ?_; rintro e w2 ⟨rfl, hb2⟩)
        have K1 : Hid (Row w2 a1 k cap1 z1) := row_later H1.out hb2
        have HZ : Hid (z0 = []) := List.length_eq_zero_iff.1 (by rw [H0.out.1]; omega)
        clear HR HD H0 H1
        go_loop [10, 11] (fun t i => ∃ j : Nat, j ≤ k ∧ i = .int .i64 j ∧ t = .int .i64 (best (lastOf z0) (z1.take j))) (fun _ i => k - (intOf i).toNat)
        case atStart => exact ⟨0, Nat.zero_le _, rfl, by simp only [List.take_zero]; show Value.int .i64 _ = .int .i64 (lastOf z0); rw [HZ.out]; rfl⟩
        case round =>
          obtain ⟨j, hj, rfl, rfl⟩ := hrel
          by_cases hlt2 : j < k
          · obtain ⟨x1, rfl, hx1⟩ := K1.out.2.2.2 j hlt2
            have HT : Hid (best (lastOf z0) (z1.take (j + 1)) = if best (lastOf z0) (z1.take j) < z1.getD j 0 then z1.getD j 0 else best (lastOf z0) (z1.take j)) := best_snoc _ _ _ (by rw [K1.out.1]; exact hlt2)
            generalize best (lastOf z0) (z1.take j) = m at *
            generalize z1.getD j 0 = z at *
            by_cases hmz : m < z
            · go_wp2
              go_round
              case rel => exact ⟨j + 1, by omega, by go_num, by rw [HT.out, if_pos hmz]⟩
              case measure => simp [intOf]; omega
            · go_wp2
              go_round
              case rel => exact ⟨j + 1, by omega, by go_num, by rw [HT.out, if_neg hmz]⟩
              case measure => simp [intOf]; omega
          · obtain rfl : j = k := by omega
            have HT := best_all (lastOf z0) z1 j K1.out.1
            go_wp2
            go_ret
            exact ⟨by simp, hb2⟩
end Go.Proofs.Ybulkbnxi.KnownWalk
