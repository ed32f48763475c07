import Derived.Test.YbulkboaaBMem
namespace Go.Proofs.Ybulkboaa.BLink
open Go.RowKit MapLaw CBase BPlain BBreach BMem
set_option linter.unusedVariables false
set_option maxRecDepth 100000

theorem info40 : (Yba.prog.info? 40).map (fun i => (i.zero, i.size, i.bytes)) = some (some (.pointer none), 1, 8) := by kernel_rfl

/-- where a walk is to stop -/
def Stop (p : Prop) : Prop := p
theorem of_stop {p : Prop} (h : Stop p) : p := h
section
variable {P : Program} {w w' : World}
theorem wp_append_run {o : Oper} {a : Act} {K : Act → World → Prop} {Q : Exit → Act → World → Prop} (s x : Operand) (t : TypeId) (ho : o.op = .call { callee := .builtin .append, args := #[s, x], argTypes := #[t, t] })
    {v u v' : Value} (hs : a.eval s = v) (hx : a.eval x = u) (hr : ∀ ty, (Builtin.append_ #[t, t] ty #[v, u]).run P w = .ok v' w') (h : K (a.put o.dst v') w') : o.wp P a w K Q := by
  unfold Oper.wp execOp
  simp only [ho, resolve, invoke, builtin, Sem.run_bind, Sem.run_pure, Result.andThen_ok, List.map_toArray, List.map_cons, List.map_nil, hs, hx, hr]
  exact h
/-- an append whose run is known: in a plain region -/
theorem wpList_append_run {ops : Array Oper} {rest : List Oper} {o : Oper} {a : Act} {Q : Exit → Act → World → Prop} (hgd : o.guard = none) (s x : Operand) (t : TypeId) (ho : o.op = .call { callee := .builtin .append, args := #[s, x], argTypes := #[t, t] })
    {v u v' : Value} (hs : a.eval s = v) (hx : a.eval x = u) (hr : ∀ ty, (Builtin.append_ #[t, t] ty #[v, u]).run P w = .ok v' w') (h : wpList P ops Q rest (a.put o.dst v') w') : wpList P ops Q (o :: rest) a w :=
  wpList_plain hgd fun _ hK => wp_append_run s x t ho hs hx hr (hK _ _ h)
/-- .. in a region that draws its order -/
theorem step_append_run {ops : Array Oper} {o : Oper} {a : Act} {K : Act → World → Prop} {Q : Exit → Act → World → Prop} {E : Prop} (hgd : o.guard = none) (s x : Operand) (t : TypeId) (ho : o.op = .call { callee := .builtin .append, args := #[s, x], argTypes := #[t, t] })
    {v u v' : Value} (hs : a.eval s = v) (hx : a.eval x = u) (hr : ∀ ty, (Builtin.append_ #[t, t] ty #[v, u]).run P w = .ok v' w') (h : K (a.put o.dst v') w') :
    if Region.wanted o (yielded ops a.tmps) = true then Oper.wp P o a w K Q else E := by
  have hw : Region.wanted o (yielded ops a.tmps) = true := by simp [Region.wanted, hgd]
  rw [if_pos hw]
  exact wp_append_run s x t ho hs hx hr h
end

/-- the blocks of G stay as they were; the streams too -/
structure Still (G : Nat → Prop) (W W' : World) : Prop where
  os : W'.os = W.os
  tape : W'.tape = W.tape
  output : W'.output = W.output
  size : W.heap.size ≤ W'.heap.size
  block : ∀ b, G b → W'.heap[b]? = W.heap[b]?
section
variable {G : Nat → Prop} {W W1 W2 : World}
theorem Still.refl (G : Nat → Prop) (W : World) : Still G W W := ⟨rfl, rfl, rfl, Nat.le_refl _, fun _ _ => rfl⟩
theorem Still.trans (h : Still G W W1) (k : Still G W1 W2) : Still G W W2 := ⟨k.os.trans h.os, k.tape.trans h.tape, k.output.trans h.output, Nat.le_trans h.size k.size, fun b hb => (k.block b hb).trans (h.block b hb)⟩
theorem Still.weak (h : Still G W W1) {G' : Nat → Prop} (hg : ∀ b, G' b → G b) : Still G' W W1 := ⟨h.os, h.tape, h.output, h.size, fun b hb => h.block b (hg b hb)⟩
theorem Still.set (h : Still G W W1) {a : Addr} (ha : ¬ G a.block) (v : Value) : Still G W (W1.setCell a v) :=
  h.trans ⟨rfl, rfl, rfl, by simp, fun b hb => Below.heap_setCell _ _ _ _ fun e => ha (e ▸ hb)⟩
theorem Still.alloc (h : Still G W W1) (hg : ∀ b, G b → b < W.heap.size) (o : Obj) : Still G W (W1.alloc o) :=
  h.trans ⟨rfl, rfl, rfl, by simp, fun b hb => Below.heap_alloc _ _ _ (Nat.lt_of_lt_of_le (hg b hb) h.size)⟩
theorem Still.drewN (h : Still G W W1) (n : Nat) : Still G W (W1.drewN n) := ⟨h.os, h.tape, h.output, h.size, h.block⟩
theorem Still.drew (h : Still G W W1) : Still G W W1.drew := ⟨h.os, h.tape, h.output, h.size, h.block⟩
theorem Still.below (h : Still G W W1) {B : Nat} (hB : ∀ b, b < B → G b) : Below B W W1 := ⟨h.os, h.tape, h.output, h.size, fun b hb => h.block b (hB b hb)⟩
theorem Still.map (h : Still G W W1) {r : Nat} (hr : ¬ G r) (o : Obj) : Still G W (ChangeMaps.setBlock W1 r o) := by
  refine h.trans ⟨rfl, rfl, rfl, by simp [ChangeMaps.setBlock], fun b hb => ?_⟩
  unfold ChangeMaps.setBlock
  simp only
  rw [Array.getElem?_setIfInBounds_ne (fun e => hr (by rw [e]; exact hb))]
end
/-- the blocks of F that hold no node -/
def Fx (F : Nat → Prop) (na : Nat → Nat) (N : Nat) : Nat → Prop := fun b => F b ∧ ∀ i, i < N → na i ≠ b

/-- append of one pointer to a row -/
theorem append_run {W : World} {F : Nat → Prop} {rows : Rid → Value} {vals : Rid → List Value} (h : Sep W F rows vals) (r : Rid) (x : Value) (hx : ∃ p, x = .pointer p) (hlen : (vals r).length ≤ 100000)   :
    ∃ g cap w', (∀ ty, (Builtin.append_ #[37, 37] ty #[rows r, .slice (some ⟨W.heap.size, 0, none⟩) 1 1]).run Yba.prog (W.alloc (.cells #[x] 40)) = .ok (.slice (some ⟨g, 0, none⟩) ((vals r).length + 1) cap) w') ∧
      Sep w' F (upr rows r (.slice (some ⟨g, 0, none⟩) ((vals r).length + 1) cap)) (upr vals r (vals r ++ [x])) ∧ Still F W w' := by
  obtain ⟨i, hi, h2⟩ := Option.map_eq_some_iff.1 info40
  simp only [Prod.mk.injEq] at h2
  obtain ⟨p, rfl⟩ := hx
  have h1 := h.alloc (.cells #[.pointer p] 40)
  obtain ⟨g, cap, w', hr, hown, hg, hat, hlt⟩ := run_append_lies (P := Yba.prog) (W.alloc (.cells #[.pointer p] 40)) 37 0 0 40 i (.pointer none) 1 8 Yba.underlying37 hi h2.1 h2.2.1 h2.2.2 rfl (by omega) (rows r) (vals r).length (vals r) (h1.own r)
    ⟨W.heap.size, 0, none⟩ 1 1 [.pointer p] rfl (World.news_of_block (cs := #[.pointer p]) (t := 40) (fr := (0, 0)) (heap_alloc_new W _)) (by simp [Value.oneCell']) (by omega) (by unfold maxLen; omega) (by omega) (Nat.zero_le _) _ rfl
  obtain ⟨h3, h4⟩ := h1.grow r (by simp) hown hg hat
  refine ⟨g, cap, w', fun ty => hr, h3, hg.os, hg.tape, hg.output, Nat.le_trans (by simp) hg.size, fun b hb => (h4 b hb).trans (Below.heap_alloc _ _ _ (h.old b hb))⟩

section
variable {W : World} {F : Nat → Prop} {na : Nat → Nat} {N : Nat} {rows : Rid → Value} {vals : Rid → List Value} {inn st : Nat → Nat} {seen aim : Nat → Bool}

/-- isGone -/
theorem gone_any (h : Gr W F na N rows vals inn st seen aim) {i : Nat} (hi : i < N) (hst : st i ≤ 2) : Calls Yba.prog 23 #[np na i] W fun e w' => e = .returned (.bool (decide (st i = 2))) ∧ w' = W := by
  have c2 := h.nodes.c2 hi
  clear h
  generalize st i = s at *
  unfold np
  go_enter Yba.func23, Yba.ntmps23
  go_wp2
  go_ret
  refine ⟨?_, rfl⟩
  by_cases e : s = 2
  · subst e; rfl
  · have e2 : ((s : Int) == 2) = false := by simp; omega
    simp [e, e2]

/-- link -/
theorem link_any (h : Gr W F na N rows vals inn st seen aim) {i j : Nat} (hi : i < N) (hj : j < N) (hlen : (vals (ro i)).length ≤ 100000) (hin : inn j ≤ 100000) :
    Calls Yba.prog 27 #[np na i, np na j] W fun e w' => e = .returned (.tuple #[]) ∧ Still (Fx F na N) W w' ∧ ∃ v, Gr w' F na N (upr rows (ro i) v) (upr vals (ro i) (vals (ro i) ++ [np na j])) (up inn j (inn j + 1)) st seen aim := by
  have c0 := h.nodes.c0 hi
  obtain ⟨g, cap, w1, hr, hS, hk⟩ := append_run h.sep (ro i) (np na j) ⟨_, rfl⟩ hlen
  have hG := h.setOut hi hS hk.block
  have f0 := ((h.nodes.same (fun i hi => hk.block _ (h.inF i hi))).fz hi 0)
  have k1 := hG.nodes.c1 hj
  have l1 := hG.nodes.fz hj 1
  have k0 := ((h.nodes.same (fun i hi => hk.block _ (h.inF i hi))).c0 hi)
  have HG : Hid _ := hG.setIn hj (inn j + 1)
  have HK : Hid (Still F W w1) := hk
  have H : Hid _ := h
  clear hG hS hk h
  simp only [np] at hr ⊢
  have HR : Hid _ := hr
  clear hr
  go_enter Yba.func27, Yba.ntmps27
  go_wp2_with (at_builtin; refine wpList_append_run (by rfl) _ _ _ (by rfl) (by rfl) (by rfl) HR.out ?_)
  refine bodyPost_end (v := .tuple #[]) (by simp [results, Yba.results27]) rfl ⟨rfl, ?_, .slice (some ⟨g, 0, none⟩) ((vals (ro i)).length + 1) cap, ?_⟩
  · exact ((HK.out.weak fun b hb => hb.1).set (fun hb => hb.2 i hi rfl) _).set (fun hb => hb.2 j hj rfl) _
  · have := HG.out
    simpa [np] using this

theorem row_view {W : World} {v : Value} {n : Nat} {xs : List Value} (h : W.ownsRow 0 40 1 v n xs) : ∃ oa cap, v = .slice oa n cap ∧ n ≤ cap ∧ ∀ i, i < n → ∃ g, oa = some ⟨g, 0, none⟩ ∧ g < W.heap.size ∧ W.cell? ⟨g, i, none⟩ = xs[i]? := by
  rcases h.2 with ⟨hv, hn⟩ | ⟨g, cap, cur, hv, hb, hg, hnc, hcm, hcs, ht⟩
  · subst hn
    exact ⟨none, 0, hv, Nat.le_refl _, fun i hi => by omega⟩
  · refine ⟨some ⟨g, 0, none⟩, cap, hv, hnc, fun i hi => ⟨g, rfl, (Array.getElem?_eq_some_iff.1 hg).1, ?_⟩⟩
    subst hv
    exact h.cellAt i (by omega)

theorem neq40_same (W : World) (a : Addr) : (binOp .neq 40 (.pointer (some a)) (.pointer (some a))).run Yba.prog W = .ok (.bool false) W := by
  obtain ⟨d, hd, hd2⟩ := Option.map_eq_some_iff.1 (show (Yba.prog.info? 43).map (fun i => i.size) = some 5 by kernel_rfl)
  have h : ∀ e : Nat, (Op.equalIn (e + 1) 40 (.pointer (some a)) (.pointer (some a))).run Yba.prog W = .ok true W := fun e => by
    simp [Op.equalIn, run_underlying Yba.underlying40, sizeOf, typeInfo, hd, run_sameAddr_same]
  have h1 : (Op.equal 40 (.pointer (some a)) (.pointer (some a))).run Yba.prog W = .ok true W := h 9999
  simp only [binOp]
  simp [h1]

/-- slices.Equal of two rows that hold the same pointers -/
theorem equal_any (v1 v2 : Value) (xs : List Value) (W : World) (hp : ∀ x ∈ xs, ∃ a, x = .pointer (some a)) (hlen : xs.length ≤ 100000) (h1 : W.ownsRow 0 40 1 v1 xs.length xs) (h2 : W.ownsRow 0 40 1 v2 xs.length xs) :
    Calls Yba.prog 12 #[v1, v2] W fun e w' => e = .returned (.bool true) ∧ ∃ n, w' = W.drewN n := by
  obtain ⟨oa, ca, rfl, hca, r1⟩ := row_view h1
  obtain ⟨ob, cb, rfl, hcb, r2⟩ := row_view h2
  clear h1 h2
  have H1 : Hid _ := r1
  have H2 : Hid _ := r2
  have HP : Hid _ := hp
  clear r1 r2 hp
  generalize hn : xs.length = n at *
  have HN : Hid _ := hn
  clear hn
  go_enter Yba.func12, Yba.ntmps12
  go_wp2
  go_loopw [13] (fun iv wr => ∃ i : Nat, iv = .int .i64 (i : Int) ∧ i ≤ n ∧ ∃ d, wr = W.drewN d) (fun iv _ => n - (intOf iv).toNat)
  case atStart => exact ⟨0, rfl, Nat.zero_le _, 0, rfl⟩
  case round =>
    obtain ⟨i, rfl, hi, d, rfl⟩ := hrel
    by_cases hlt : i < n
    · have hlt' : (i : Int) < (n : Int) := by omega
      obtain ⟨g1, rfl, hg1, c1⟩ := H1.out i hlt
      obtain ⟨g2, rfl, hg2, c2⟩ := H2.out i hlt
      obtain ⟨x, hx⟩ : ∃ x, xs[i]? = some x := ⟨_, List.getElem?_eq_getElem (by rw [HN.out]; exact hlt)⟩
      obtain ⟨a, rfl⟩ := HP.out x (List.mem_of_getElem? hx)
      rw [hx] at c1 c2
      have hsame := neq40_same
      clear hx
      go_wp2
      go_quiet (fail)
      go_wp2
      go_roundw
      case rel => first | exact ⟨i + 1, by go_num, by omega, by first | exact ⟨_, rfl⟩ | exact ⟨_, World.drewN_drewN _ _ _⟩⟩ | ((repeat apply Exists.intro); exact ⟨⟨i + 1, by go_num, by omega, by first | exact ⟨_, rfl⟩ | exact ⟨_, World.drewN_drewN _ _ _⟩⟩, rfl⟩)
      case measure => simp [intOf]; omega
    · obtain rfl : i = n := by omega
      go_wp2
      go_ret
      exact ⟨rfl, d, rfl⟩
end
end Go.Proofs.Ybulkboaa.BLink
