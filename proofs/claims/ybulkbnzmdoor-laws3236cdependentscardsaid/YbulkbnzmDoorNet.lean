import Derived.Test.YbulkbnzmDoorBase
namespace Go.Proofs.YbulkbnzmDoor.Net
open Go.RowKit MapLaw Base
set_option linter.unusedVariables false

theorem eql39 {W : World} {p q : Option Addr} {r : Bool} (h : ∀ d, (Op.equalIn (d + 1) 37 (.pointer p) (.pointer q)).run Ybad.prog W = .ok r W) :
    (binOp .eql 39 (.agg #[.pointer p]) (.agg #[.pointer q])).run Ybad.prog W = .ok (.bool r) W := by
  have h1 : (Op.equal 39 (.agg #[.pointer p]) (.agg #[.pointer q])).run Ybad.prog W = .ok r W := eq39 9998 (h 9998)
  simp only [binOp]
  simp [h1]
theorem neq39 {W : World} {p q : Option Addr} {r : Bool} (h : ∀ d, (Op.equalIn (d + 1) 37 (.pointer p) (.pointer q)).run Ybad.prog W = .ok r W) :
    (binOp .neq 39 (.agg #[.pointer p]) (.agg #[.pointer q])).run Ybad.prog W = .ok (.bool (!r)) W := by
  have h1 : (Op.equal 39 (.agg #[.pointer p]) (.agg #[.pointer q])).run Ybad.prog W = .ok r W := eq39 9998 (h 9998)
  simp only [binOp]
  simp [h1]
theorem eql39_nil (W : World) (a : Addr) : (binOp .eql 39 (.agg #[.pointer (some a)]) (.agg #[.pointer none])).run Ybad.prog W = .ok (.bool false) W := eql39 fun d => eq37_nil d W a
theorem eql39_same (W : World) (a : Addr) : (binOp .eql 39 (.agg #[.pointer (some a)]) (.agg #[.pointer (some a)])).run Ybad.prog W = .ok (.bool true) W := eql39 fun d => eq37_same d W a
theorem neq39_nil (W : World) (a : Addr) : (binOp .neq 39 (.agg #[.pointer (some a)]) (.agg #[.pointer none])).run Ybad.prog W = .ok (.bool true) W := neq39 fun d => eq37_nil d W a
theorem neq39_same (W : World) (a : Addr) : (binOp .neq 39 (.agg #[.pointer (some a)]) (.agg #[.pointer (some a)])).run Ybad.prog W = .ok (.bool false) W := neq39 fun d => eq37_same d W a
theorem eql39_64 {W : World} {a4 a6 : Addr} (h : Gl W a4 a6) : (binOp .eql 39 (.agg #[.pointer (some a6)]) (.agg #[.pointer (some a4)])).run Ybad.prog W = .ok (.bool false) W := by
  obtain ⟨c4, t4, h4⟩ := h.h4
  obtain ⟨c6, t6, h6⟩ := h.h6
  exact eql39 fun d => eq37_other d (run_sameAddr_other W (P := Ybad.prog) h.ne.symm h6 h4)
theorem neq39_64 {W : World} {a4 a6 : Addr} (h : Gl W a4 a6) : (binOp .neq 39 (.agg #[.pointer (some a6)]) (.agg #[.pointer (some a4)])).run Ybad.prog W = .ok (.bool true) W := by
  obtain ⟨c4, t4, h4⟩ := h.h4
  obtain ⟨c6, t6, h6⟩ := h.h6
  exact neq39 fun d => eq37_other d (run_sameAddr_other W (P := Ybad.prog) h.ne.symm h6 h4)

theorem Gl.three {W : World} {a4 a6 : Addr} (h : Gl W a4 a6) : 3 ≤ W.heap.size := by
  have := World.block_lt_of_cell? W _ h.c2
  simp at this
  omega
theorem Gl.below {W W' : World} {a4 a6 : Addr} (h : Gl W a4 a6) (hb : Below W.heap.size W W') : Gl W' a4 a6 := h.later (Gl.three h) h.lt4 h.lt6 hb
theorem Gl.alloc {W : World} {a4 a6 : Addr} (h : Gl W a4 a6) (o : Obj) : Gl (W.alloc o) a4 a6 := Gl.below h ((Below.refl _ _).alloc (Nat.le_refl _) o)

/-- an address -/
abbrev ad (hi lo : Int) (z : Addr) : Value := .agg #[.int .u64 hi, .int .u64 lo, .pointer (some z)]

set_option maxRecDepth 100000

theorem isZero_any (hi lo : Int) (z a4 a6 : Addr) (w : World) (hg : Gl w a4 a6) :
    Calls Ybad.prog 9 #[ad hi lo z] w fun e w' => e = .returned (.bool false) ∧ Below w.heap.size w w' := by
  have h3 := Gl.three hg
  have g2 := (Gl.alloc hg (.cells #[.int .u64 hi, .int .u64 lo, .pointer (some z)] 41)).c2
  have hb : Below w.heap.size w (w.alloc (.cells #[.int .u64 hi, .int .u64 lo, .pointer (some z)] 41)) := (Below.refl _ _).alloc (Nat.le_refl _) _
  have he := eql39_nil
  clear hg
  go_enter Ybad.func9, Ybad.ntmps9
  go_wp2
  go_ret
  exact ⟨rfl, hb⟩

theorem bitLen4 (hi lo : Int) (a4 a6 : Addr) (w : World) (hg : Gl w a4 a6) :
    Calls Ybad.prog 10 #[ad hi lo a4] w fun e w' => e = .returned (.int .i64 32) ∧ Below w.heap.size w w' := by
  have h3 := Gl.three hg
  have G := Gl.alloc hg (.cells #[.int .u64 hi, .int .u64 lo, .pointer (some a4)] 41)
  have g2 := G.c2
  have g0 := G.c0
  have hb : Below w.heap.size w (w.alloc (.cells #[.int .u64 hi, .int .u64 lo, .pointer (some a4)] 41)) := (Below.refl _ _).alloc (Nat.le_refl _) _
  have he := eql39_nil
  have hs := eql39_same
  clear hg G
  go_enter Ybad.func10, Ybad.ntmps10
  go_wp2
  go_ret
  exact ⟨rfl, hb⟩
theorem bitLen6 (hi lo : Int) (a4 a6 : Addr) (w : World) (hg : Gl w a4 a6) :
    Calls Ybad.prog 10 #[ad hi lo a6] w fun e w' => e = .returned (.int .i64 128) ∧ Below w.heap.size w w' := by
  have h3 := Gl.three hg
  have G := Gl.alloc hg (.cells #[.int .u64 hi, .int .u64 lo, .pointer (some a6)] 41)
  have g2 := G.c2
  have g0 := G.c0
  have hb : Below w.heap.size w (w.alloc (.cells #[.int .u64 hi, .int .u64 lo, .pointer (some a6)] 41)) := (Below.refl _ _).alloc (Nat.le_refl _) _
  have he := eql39_nil
  obtain ⟨c4, t4, h4⟩ := G.h4
  obtain ⟨c6, t6, h6⟩ := G.h6
  have hs := eq37_other 9998 (run_sameAddr_other _ (P := Ybad.prog) G.ne.symm h6 h4)
  clear h4 h6
  clear hg G
  go_enter Ybad.func10, Ybad.ntmps10
  go_wp2
  go_ret
  exact ⟨rfl, hb⟩
theorem is6_4 (hi lo : Int) (a4 a6 : Addr) (w : World) (hg : Gl w a4 a6) :
    Calls Ybad.prog 15 #[ad hi lo a4] w fun e w' => e = .returned (.bool false) ∧ Below w.heap.size w w' := by
  have h3 := Gl.three hg
  have G := Gl.alloc hg (.cells #[.int .u64 hi, .int .u64 lo, .pointer (some a4)] 41)
  have g2 := G.c2
  have g0 := G.c0
  have hb : Below w.heap.size w (w.alloc (.cells #[.int .u64 hi, .int .u64 lo, .pointer (some a4)] 41)) := (Below.refl _ _).alloc (Nat.le_refl _) _
  have he := neq39_nil
  have hs := neq39_same
  clear hg G
  go_enter Ybad.func15, Ybad.ntmps15
  go_wp2
  go_ret
  exact ⟨rfl, hb⟩
theorem is6_6 (hi lo : Int) (a4 a6 : Addr) (w : World) (hg : Gl w a4 a6) :
    Calls Ybad.prog 15 #[ad hi lo a6] w fun e w' => e = .returned (.bool true) ∧ Below w.heap.size w w' := by
  have h3 := Gl.three hg
  have G := Gl.alloc hg (.cells #[.int .u64 hi, .int .u64 lo, .pointer (some a6)] 41)
  have g2 := G.c2
  have g0 := G.c0
  have hb : Below w.heap.size w (w.alloc (.cells #[.int .u64 hi, .int .u64 lo, .pointer (some a6)] 41)) := (Below.refl _ _).alloc (Nat.le_refl _) _
  have he := neq39_nil
  obtain ⟨c4, t4, h4⟩ := G.h4
  obtain ⟨c6, t6, h6⟩ := G.h6
  have hs := eq37_other 9998 (run_sameAddr_other _ (P := Ybad.prog) G.ne.symm h6 h4)
  clear h4 h6
  clear hg G
  go_enter Ybad.func15, Ybad.ntmps15
  go_wp2
  go_ret
  exact ⟨rfl, hb⟩


theorem ret41 {fn : Func} {p : Tmp} (h : fn.results = #[.cell p 41]) {a : Act} {w : World} {R : Ending → World → Prop} (g : Nat) (cs cs' : Array Value) (t : TypeId) (hp : a.tmps.getD p undef = .pointer (some ⟨g, 0, none⟩)) (hg : Blk w g cs t) (e : cs = cs') (hs : cs'.size = 3)
    (hd : a.defers = []) (hr : R (.returned (.agg cs')) w) : bodyPost Ybad.prog fn R .ret a w := by
  subst e
  exact bodyPost_ret (results_cell_row h _ w g t cs (0, 0) _ hp hg Ybad.underlying41 rfl (by rw [hs]; kernel_rfl)) hd hr
theorem ret43 {fn : Func} {p : Tmp} (h : fn.results = #[.cell p 43]) {a : Act} {w : World} {R : Ending → World → Prop} (g : Nat) (cs cs' : Array Value) (t : TypeId) (hp : a.tmps.getD p undef = .pointer (some ⟨g, 0, none⟩)) (hg : Blk w g cs t) (e : cs = cs') (hs : cs'.size = 4)
    (hd : a.defers = []) (hr : R (.returned (.agg cs')) w) : bodyPost Ybad.prog fn R .ret a w := by
  subst e
  exact bodyPost_ret (results_cell_row h _ w g t cs (0, 0) _ hp hg Ybad.underlying43 rfl (by rw [hs]; kernel_rfl)) hd hr

theorem without4 (hi lo : Int) (a4 a6 : Addr) (w : World) (hg : Gl w a4 a6) :
    Calls Ybad.prog 11 #[ad hi lo a4] w fun e w' => e = .returned (ad hi lo a4) ∧ Below w.heap.size w w' := by
  have h3 := Gl.three hg
  have HG : Hid (Gl w a4 a6) := hg
  clear hg
  have T := Blk.two w #[.int .u64 hi, .int .u64 lo, .pointer (some a4)] #[.int .u64 0, .int .u64 0, .pointer none] 41 41
  have HT : Hid _ := T
  clear T
  go_enter Ybad.func11, Ybad.ntmps11
  go_wp2_with (go_at_call 15; refine (is6_4 hi lo a4 a6 _ (Gl.alloc (Gl.alloc HG.out _) _)).mono ?_; rintro e w' ⟨rfl, hb⟩; have HB : Hid (Below _ _ w') := hb; have k0 := (HT.out.1.later (by simp; try omega) hb).cell 0 _ rfl; have k1 := (HT.out.1.later (by simp; try omega) hb).cell 1 _ rfl; have k2 := (HT.out.1.later (by simp; try omega) hb).cell 2 _ rfl; have kf0 := (HT.out.1.later (by simp; try omega) hb).frozen 0; have kf1 := (HT.out.1.later (by simp; try omega) hb).frozen 1; have kf2 := (HT.out.1.later (by simp; try omega) hb).frozen 2; have l0 := (HT.out.2.1.later (by simp; try omega) hb).cell 0 _ rfl; have l1 := (HT.out.2.1.later (by simp; try omega) hb).cell 1 _ rfl; have l2 := (HT.out.2.1.later (by simp; try omega) hb).cell 2 _ rfl; have lf0 := (HT.out.2.1.later (by simp; try omega) hb).frozen 0; have lf1 := (HT.out.2.1.later (by simp; try omega) hb).frozen 1; have lf2 := (HT.out.2.1.later (by simp; try omega) hb).frozen 2; clear hb)
  have hb2 := HB.out
  have hb3 := HT.out.2.2.trans (hb2.mono (by simp; omega))
  have hl := HT.out.2.1.later (by simp) hb2
  exact ret41 Ybad.results11 _ _ _ _ rfl (((hl.set 0 _).set 1 _).set 2 _) rfl rfl rfl ⟨rfl, ((hb3.setCell (by simp) _).setCell (by simp) _).setCell (by simp) _⟩

theorem without6 (hi lo : Int) (a4 a6 : Addr) (w : World) (hg : Gl w a4 a6) :
    Calls Ybad.prog 11 #[ad hi lo a6] w fun e w' => e = .returned (ad hi lo a6) ∧ Below w.heap.size w w' := by
  have h3 := Gl.three hg
  have HG : Hid (Gl w a4 a6) := hg
  clear hg
  have T := Blk.two w #[.int .u64 hi, .int .u64 lo, .pointer (some a6)] #[.int .u64 0, .int .u64 0, .pointer none] 41 41
  have HT : Hid _ := T
  clear T
  go_enter Ybad.func11, Ybad.ntmps11
  go_wp2_with (go_at_call 15; refine (is6_6 hi lo a4 a6 _ (Gl.alloc (Gl.alloc HG.out _) _)).mono ?_; rintro e w' ⟨rfl, hb⟩; have HB : Hid (Below _ _ w') := hb; have k0 := (HT.out.1.later (by simp; try omega) hb).cell 0 _ rfl; have k1 := (HT.out.1.later (by simp; try omega) hb).cell 1 _ rfl; have k2 := (HT.out.1.later (by simp; try omega) hb).cell 2 _ rfl; have kf0 := (HT.out.1.later (by simp; try omega) hb).frozen 0; have kf1 := (HT.out.1.later (by simp; try omega) hb).frozen 1; have kf2 := (HT.out.1.later (by simp; try omega) hb).frozen 2; have l0 := (HT.out.2.1.later (by simp; try omega) hb).cell 0 _ rfl; have l1 := (HT.out.2.1.later (by simp; try omega) hb).cell 1 _ rfl; have l2 := (HT.out.2.1.later (by simp; try omega) hb).cell 2 _ rfl; have lf0 := (HT.out.2.1.later (by simp; try omega) hb).frozen 0; have lf1 := (HT.out.2.1.later (by simp; try omega) hb).frozen 1; have lf2 := (HT.out.2.1.later (by simp; try omega) hb).frozen 2; have g1 := (Gl.below (Gl.alloc (Gl.alloc HG.out _) _) hb).c1; have n1 : ¬ 1 = w.heap.size := (by omega); have n2 : ¬ w.heap.size = 1 := (by omega); clear hb)
  have hb2 := HB.out
  have hb3 := HT.out.2.2.trans (hb2.mono (by simp; omega))
  have hl := HT.out.2.1.later (by simp) hb2
  exact ret41 Ybad.results11 _ _ _ _ rfl ((((hl.other (a := ⟨w.heap.size, 2, none⟩) (by simp) _).set 0 _).set 1 _).set 2 _) rfl rfl rfl ⟨rfl, (((hb3.setCell (by simp) _).setCell (by simp) _).setCell (by simp) _).setCell (by simp) _⟩

theorem prefixFrom_a4 (hi lo n : Int) (hn : n = 8 ∨ n = 16) (a4 a6 : Addr) (w : World) (hg : Gl w a4 a6) :
    Calls Ybad.prog 4 #[ad hi lo a4, .int .i64 n] w fun e w' => e = .returned (.agg #[.int .u64 hi, .int .u64 lo, .pointer (some a4), .int .u8 (n + 1)]) ∧ Below w.heap.size w w' := by
  have h3 := Gl.three hg
  have HG : Hid (Gl w a4 a6) := hg
  clear hg
  have T := Blk.two w #[.int .u64 hi, .int .u64 lo, .pointer (some a4)] #[.int .u64 0, .int .u64 0, .pointer none, .int .u8 0] 41 43
  have HT : Hid _ := T
  clear T
  go_enter Ybad.func4, Ybad.ntmps4
  rcases hn with rfl | rfl
  all_goals
    go_wp2_with (first
      | (go_at_call 9; refine (isZero_any hi lo a4 a4 a6 _ (Gl.alloc (Gl.alloc HG.out _) _)).mono ?_; rintro e w1 ⟨rfl, hb⟩; have HB : Hid (Below _ _ w1) := hb; have k0 := (HT.out.1.later (by simp; try omega) hb).cell 0 _ rfl; have k1 := (HT.out.1.later (by simp; try omega) hb).cell 1 _ rfl; have k2 := (HT.out.1.later (by simp; try omega) hb).cell 2 _ rfl; clear hb)
      | (go_at_call 10; refine (bitLen4 hi lo a4 a6 _ (Gl.below (Gl.alloc (Gl.alloc HG.out _) _) HB.out)).mono ?_; rintro e w2 ⟨rfl, hb0⟩; have HB2 : Hid (Below _ _ w2) := HB.out.trans (hb0.mono HB.out.size); have hb := HB2.out; have m0 := (HT.out.1.later (by simp; try omega) hb).cell 0 _ rfl; have m1 := (HT.out.1.later (by simp; try omega) hb).cell 1 _ rfl; have m2 := (HT.out.1.later (by simp; try omega) hb).cell 2 _ rfl; clear hb hb0)
      | (go_at_call 11; refine (without4 hi lo a4 a6 _ (Gl.below (Gl.alloc (Gl.alloc HG.out _) _) HB2.out)).mono ?_; rintro e w3 ⟨rfl, hb0⟩; have HB3 : Hid (Below _ _ w3) := HB2.out.trans (hb0.mono HB2.out.size); have hb := HB3.out; have l0 := (HT.out.2.1.later (by simp; try omega) hb).cell 0 _ rfl; have l1 := (HT.out.2.1.later (by simp; try omega) hb).cell 1 _ rfl; have l2 := (HT.out.2.1.later (by simp; try omega) hb).cell 2 _ rfl; have l3 := (HT.out.2.1.later (by simp; try omega) hb).cell 3 _ rfl; have lf0 := (HT.out.2.1.later (by simp; try omega) hb).frozen 0; have lf1 := (HT.out.2.1.later (by simp; try omega) hb).frozen 1; have lf2 := (HT.out.2.1.later (by simp; try omega) hb).frozen 2; have lf3 := (HT.out.2.1.later (by simp; try omega) hb).frozen 3; clear hb hb0))
    have hb2 := HB3.out
    have hb3 := HT.out.2.2.trans (hb2.mono (by simp; omega))
    have hl := HT.out.2.1.later (by simp) hb2
    exact ret43 Ybad.results4 _ _ _ _ rfl ((((hl.set 0 _).set 1 _).set 2 _).set 3 _) rfl rfl rfl ⟨rfl, (((hb3.setCell (by simp) _).setCell (by simp) _).setCell (by simp) _).setCell (by simp) _⟩

theorem prefixFrom_a6 (hi lo n : Int) (hn : n = 8 ∨ n = 16) (a4 a6 : Addr) (w : World) (hg : Gl w a4 a6) :
    Calls Ybad.prog 4 #[ad hi lo a6, .int .i64 n] w fun e w' => e = .returned (.agg #[.int .u64 hi, .int .u64 lo, .pointer (some a6), .int .u8 (n + 1)]) ∧ Below w.heap.size w w' := by
  have h3 := Gl.three hg
  have HG : Hid (Gl w a4 a6) := hg
  clear hg
  have T := Blk.two w #[.int .u64 hi, .int .u64 lo, .pointer (some a6)] #[.int .u64 0, .int .u64 0, .pointer none, .int .u8 0] 41 43
  have HT : Hid _ := T
  clear T
  go_enter Ybad.func4, Ybad.ntmps4
  rcases hn with rfl | rfl
  all_goals
    go_wp2_with (first
      | (go_at_call 9; refine (isZero_any hi lo a6 a4 a6 _ (Gl.alloc (Gl.alloc HG.out _) _)).mono ?_; rintro e w1 ⟨rfl, hb⟩; have HB : Hid (Below _ _ w1) := hb; have k0 := (HT.out.1.later (by simp; try omega) hb).cell 0 _ rfl; have k1 := (HT.out.1.later (by simp; try omega) hb).cell 1 _ rfl; have k2 := (HT.out.1.later (by simp; try omega) hb).cell 2 _ rfl; clear hb)
      | (go_at_call 10; refine (bitLen6 hi lo a4 a6 _ (Gl.below (Gl.alloc (Gl.alloc HG.out _) _) HB.out)).mono ?_; rintro e w2 ⟨rfl, hb0⟩; have HB2 : Hid (Below _ _ w2) := HB.out.trans (hb0.mono HB.out.size); have hb := HB2.out; have m0 := (HT.out.1.later (by simp; try omega) hb).cell 0 _ rfl; have m1 := (HT.out.1.later (by simp; try omega) hb).cell 1 _ rfl; have m2 := (HT.out.1.later (by simp; try omega) hb).cell 2 _ rfl; clear hb hb0)
      | (go_at_call 11; refine (without6 hi lo a4 a6 _ (Gl.below (Gl.alloc (Gl.alloc HG.out _) _) HB2.out)).mono ?_; rintro e w3 ⟨rfl, hb0⟩; have HB3 : Hid (Below _ _ w3) := HB2.out.trans (hb0.mono HB2.out.size); have hb := HB3.out; have l0 := (HT.out.2.1.later (by simp; try omega) hb).cell 0 _ rfl; have l1 := (HT.out.2.1.later (by simp; try omega) hb).cell 1 _ rfl; have l2 := (HT.out.2.1.later (by simp; try omega) hb).cell 2 _ rfl; have l3 := (HT.out.2.1.later (by simp; try omega) hb).cell 3 _ rfl; have lf0 := (HT.out.2.1.later (by simp; try omega) hb).frozen 0; have lf1 := (HT.out.2.1.later (by simp; try omega) hb).frozen 1; have lf2 := (HT.out.2.1.later (by simp; try omega) hb).frozen 2; have lf3 := (HT.out.2.1.later (by simp; try omega) hb).frozen 3; clear hb hb0))
    have hb2 := HB3.out
    have hb3 := HT.out.2.2.trans (hb2.mono (by simp; omega))
    have hl := HT.out.2.1.later (by simp) hb2
    exact ret43 Ybad.results4 _ _ _ _ rfl ((((hl.set 0 _).set 1 _).set 2 _).set 3 _) rfl rfl rfl ⟨rfl, (((hb3.setCell (by simp) _).setCell (by simp) _).setCell (by simp) _).setCell (by simp) _⟩
end Go.Proofs.YbulkbnzmDoor.Net
