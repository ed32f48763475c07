import Derived.Test.YbulkboaaCReadWalk
import Derived.Deep.CutRange
namespace Go.Proofs.Ybulkboaa.CMirrorWalk
open Go.RowKit MapLaw CBase CHas CBuild CRead CReadWalk
set_option linter.unusedVariables false

theorem run_store_K (P : Program) (w : World) (a : Addr) (m : Mode) (pb i : Nat) : (store a (K pb i) m).run P w = stored P w a (K pb i) m := run_store P w a _ m rfl
attribute [local go_sem] run_store_K

/-- the law's memory: the case, the array of pointers -/
structure PM (w W : World) (pb xC xP : Nat) (cc : Array Value) : Prop where
  bC : Blk W xC cc 104
  bP : Blk W xP #[K pb 0, K pb 1, K pb 2, K pb 3] 105
  pool : Pool W pb
  bel : Below xC w W
  o1 : xC < pb
  o2 : pb + 4 ≤ xP

section
variable {w W : World} {pb xC xP : Nat} {cc : Array Value}
theorem PM.drew (h : PM w W pb xC xP cc) : PM w W.drew pb xC xP cc := ⟨h.bC, h.bP, h.pool, h.bel.drew, h.o1, h.o2⟩
theorem PM.later {W' : World} (h : PM w W pb xC xP cc) (hb : Below W.heap.size W W') : PM w W' pb xC xP cc :=
  have hl := h.bP.lt; have e2 := h.o2; have e1 := h.o1
  ⟨h.bC.later (by omega) hb, h.bP.later hl hb, h.pool.later (by omega) hb, h.bel.trans (hb.mono (by omega)), h.o1, h.o2⟩
theorem PM.alloc (h : PM w W pb xC xP cc) (o : Obj) : PM w (W.alloc o) pb xC xP cc := h.later ((Below.refl _ _).alloc (Nat.le_refl _) o)
theorem PM.far (h : PM w W pb xC xP cc) (b i : Nat) (hb : xP < b) (v : Value) : PM w (W.setCell ⟨b, i, none⟩ v) pb xC xP cc :=
  have e2 := h.o2; have e1 := h.o1
  ⟨h.bC.other (by simp; omega) _, h.bP.other (by simp; omega) _, h.pool.later (B := xP) (by omega) ((Below.refl _ _).setCell (by simp; omega) _), h.bel.setCell (by simp; omega) _, h.o1, h.o2⟩
end

theorem pm_start (w w1 : World) (cc : Array Value) (hP : Pool w1 (w.heap.size + 1 + 1)) (hB : Below (w.heap.size + 1) (w.alloc (.cells cc 104)) w1) :
    PM w (w1.alloc (.cells #[K (w.heap.size + 1 + 1) 0, K (w.heap.size + 1 + 1) 1, K (w.heap.size + 1 + 1) 2, K (w.heap.size + 1 + 1) 3] 105)) (w.heap.size + 1 + 1) w.heap.size w1.heap.size cc where
  bC := ((Blk.new w cc 104).later (by omega) hB).alloc _
  bP := Blk.new w1 _ 105
  pool := by
    have hl := hP.lt
    exact hP.later (B := w1.heap.size) hl ((Below.refl _ _).alloc (Nat.le_refl _) _)
  bel := by
    have hs := hB.size
    simp at hs
    exact (((Below.refl _ _).alloc (Nat.le_refl _) _).trans (hB.mono (by omega))).alloc (by omega) _
  o1 := by omega
  o2 := hP.lt

set_option maxRecDepth 100000 in
set_option maxHeartbeats 1600000 in
theorem walk_big (mu : Bool) (ho ki f0 f1 qu : Nat) (a : Option Addr) (len cap : Nat) (w : World) (hbig : 1024 < len) (hm : len ≤ maxLen) :
    Calls Yba.prog 7 #[.agg #[.bool mu, .int .u8 ho, .int .u8 ki, .int .u8 f0, .int .u8 f1, .slice a len cap, .int .u8 qu]] w fun e w' => e = .returned (.bool true) ∧ Below w.heap.size w w' := by
  unfold maxLen at hm
  go_enter Yba.func7, Yba.ntmps7
  go_wp2
  go_ret
  exact ⟨rfl, (Below.refl _ _).alloc (Nat.le_refl _) _⟩

set_option maxRecDepth 100000 in
set_option maxHeartbeats 1600000 in
theorem walk_one (ho ki f0 f1 qu : Nat) (a : Option Addr) (len cap : Nat) (w : World) (hlen : ¬ 1024 < len) (hh : ho ≤ 255) (hqu : qu ≤ 255) (hki : ki ≤ 255) :
    Calls Yba.prog 7 #[.agg #[.bool false, .int .u8 ho, .int .u8 ki, .int .u8 f0, .int .u8 f1, .slice a len cap, .int .u8 qu]] w fun e w' => e = .returned (.bool true) ∧ Below w.heap.size w w' := by
  have hq : (qu : Int) % 4 = ((qu % 4 : Nat) : Int) := by omega
  have hq4 : qu % 4 < 4 := Nat.mod_lt _ (by decide)
  generalize qu % 4 = q at *
  have hq4' : (q : Int) < 4 := by omega
  go_enter Yba.func7, Yba.ntmps7
  go_wp2_with fail
  refine (pool_any _).mono ?_
  rintro e w1 ⟨rfl, hP, hB⟩
  have hpq : (w1.alloc (.cells #[K (w.heap.size + 1 + 1) 0, K (w.heap.size + 1 + 1) 1, K (w.heap.size + 1 + 1) 2, K (w.heap.size + 1 + 1) 3] 105)).cell? ⟨w1.heap.size, q, none⟩ = some (K (w.heap.size + 1 + 1) q) :=
    (Blk.new w1 _ 105).cell q _ (by match q, hq4 with | 0, _ => rfl | 1, _ => rfl | 2, _ => rfl | 3, _ => rfl)
  have k6 : w1.cell? ⟨w.heap.size, 6, none⟩ = some (.int .u8 qu) := (hB.cell (p := ⟨w.heap.size, 6, none⟩) (by simp)).trans (by simp)
  have hsz : w.heap.size < w1.heap.size := by have := hB.size; simp at this; omega
  rw [World.size_alloc] at hP hB ⊢
  go_wp2_with fail
  have HL := hid (pm_start w w1 _ hP hB)
  have hpl := hP.lt
  clear hP hB hpq k6 hsz
  generalize World.alloc _ (.cells _ 105) = W at *
  have o1 : w.heap.size < w.heap.size + 1 + 1 := by omega
  generalize w.heap.size + 1 + 1 = pb at *
  generalize w1.heap.size = xP at *
  generalize hxC : w.heap.size = xC at *
  have HX : Hid (w.heap.size = xC) := hxC
  clear hxC
  have HI : Hid (ho % 5 ≤ 4) := by show ho % 5 ≤ 4; omega
  have lC := HL.out.bC.lt
  have lP := HL.out.bP.lt
  have a0 := HL.out.bP.cell 0 (K pb 0) rfl
  have a1 := HL.out.bP.cell 1 (K pb 1) rfl
  have a2 := HL.out.bP.cell 2 (K pb 2) rfl
  have a3 := HL.out.bP.cell 3 (K pb 3) rfl
  have k1 := HL.out.bC.cell 1 (.int .u8 ho) rfl
  go_region_held3 (fun w' => w'.cell? ⟨xP, 0, none⟩ = some (K pb 0) ∧ w'.cell? ⟨xP, 1, none⟩ = some (K pb 1) ∧ w'.cell? ⟨xP, 2, none⟩ = some (K pb 2) ∧ w'.cell? ⟨xP, 3, none⟩ = some (K pb 3) ∧ w'.cell? ⟨xC, 1, none⟩ = some (.int .u8 ho))
    (go_keep)
    (first | (go_at_call 15; refine (idx_any ho _ hh).mono ?_; rintro e w' ⟨rfl, rfl⟩) | (go_at_call 14; refine (pick_any pb (ho % 5) _ HI.out).mono ?_; rintro e w' ⟨rfl, rfl⟩))
  have HL1 := hid ((HL.out.alloc (.cells #[K pb 0, K pb 1, K pb 2, K pb 3] 105)).drew)
  clear HL a0 a1 a2 a3 k1 lC lP
  generalize (World.alloc _ _).drew = W1 at *
  have lC := HL1.out.bC.lt
  have k2 := HL1.out.bC.cell 2 (.int .u8 ki) rfl
  have k0 := HL1.out.bC.cell 0 (.bool false) rfl
  go_wp2_with (go_at_call 19; refine (swap_any _ _).mono ?_; rintro e w' ⟨rfl, rfl⟩)
  have HL2 := hid ((HL1.out.alloc (.cells (itemCells (.pointer (pp pb (ho % 5))) (.pointer none) (.int .u8 ki)) 97)).alloc (.cells (itemCells (.pointer (pp pb (ho % 5))) (.pointer none) (.int .u8 (swapV ki))) 97))
  have Ba := hid ((Blk.new' W1 (itemCells (.pointer (pp pb (ho % 5))) (.pointer none) (.int .u8 ki)) 97 W1.heap.size rfl).alloc (.cells (itemCells (.pointer (pp pb (ho % 5))) (.pointer none) (.int .u8 (swapV ki))) 97))
  have Bb := hid (Blk.new' (W1.alloc (.cells (itemCells (.pointer (pp pb (ho % 5))) (.pointer none) (.int .u8 ki)) 97)) (itemCells (.pointer (pp pb (ho % 5))) (.pointer none) (.int .u8 (swapV ki))) 97 (W1.heap.size + 1) (by simp))
  have oP := HL1.out.bP.lt
  have oab : W1.heap.size < W1.heap.size + 1 := by omega
  unfold itemCells at HL2 Ba Bb
  clear HL1 lC k2 k0
  generalize World.alloc _ (.cells _ 97) = W2 at *
  generalize W1.heap.size + 1 = xb at *
  generalize W1.heap.size = xa at *
  have a4 := Ba.out.cell 4 (.pointer (pp pb (ho % 5))) rfl
  have a5 := Ba.out.cell 5 (.pointer none) rfl
  have a8 := Ba.out.cell 8 (.int .u8 ki) rfl
  have b4 := Bb.out.cell 4 (.pointer (pp pb (ho % 5))) rfl
  have b5 := Bb.out.cell 5 (.pointer none) rfl
  have b8 := Bb.out.cell 8 (.int .u8 (swapV ki)) rfl
  have hsb : (bits BinOp.and IntKind.u8 (swapV (ki : Int)) 2 != 0) = (bits BinOp.and IntKind.u8 (ki : Int) 1 != 0) := swap_bit ⟨ki, by omega⟩
  refine (read_one xa pb (ho % 5) q ki _ HL2.out.pool hq4 a4 a5 a8).mono ?_
  rintro e w3 ⟨rfl, rfl⟩
  go_wp2_with fail
  refine (written_one xb pb (ho % 5) q (swapV ki) _ HL2.out.pool hq4 b4 b5 b8).mono ?_
  rintro e w4 ⟨rfl, rfl⟩
  rw [hsb]
  go_wp2
  go_ret
  exact ⟨by simp, by rw [HX.out]; exact HL2.out.bel⟩

set_option maxRecDepth 100000 in
set_option maxHeartbeats 1600000 in
theorem walk_multi (ho ki f0 f1 qu : Nat) (a : Option Addr) (len cap : Nat) (w : World) (hlen : ¬ 1024 < len) (hh : ho ≤ 255) (hqu : qu ≤ 255) (h0 : f0 ≤ 255) (h1 : f1 ≤ 255) (zs : List Nat) (hz : zs.length = len)
    (hrow : ∀ i, i < len → ∃ x, a = some x ∧ w.cell? (x.add i) = some (.int .u8 ((zs.getD i 0 : Nat) : Int))) (hby : ∀ i, zs.getD i 0 ≤ 255) :
    Calls Yba.prog 7 #[.agg #[.bool true, .int .u8 ho, .int .u8 ki, .int .u8 f0, .int .u8 f1, .slice a len cap, .int .u8 qu]] w fun e w' => e = .returned (.bool true) ∧ Below w.heap.size w w' := by
  have HZ : Hid (zs.length = len) := hz
  have HRow : Hid (∀ i, i < len → ∃ x, a = some x ∧ w.cell? (x.add i) = some (.int .u8 ((zs.getD i 0 : Nat) : Int))) := hrow
  have HBy : Hid (∀ i, zs.getD i 0 ≤ 255) := hby
  clear hz hrow hby
  have hq : (qu : Int) % 4 = ((qu % 4 : Nat) : Int) := by omega
  have hq4 : qu % 4 < 4 := Nat.mod_lt _ (by decide)
  generalize qu % 4 = q at *
  have hq4' : (q : Int) < 4 := by omega
  go_enter Yba.func7, Yba.ntmps7
  go_wp2_with fail
  refine (pool_any _).mono ?_
  rintro e w1 ⟨rfl, hP, hB⟩
  have hpq : (w1.alloc (.cells #[K (w.heap.size + 1 + 1) 0, K (w.heap.size + 1 + 1) 1, K (w.heap.size + 1 + 1) 2, K (w.heap.size + 1 + 1) 3] 105)).cell? ⟨w1.heap.size, q, none⟩ = some (K (w.heap.size + 1 + 1) q) :=
    (Blk.new w1 _ 105).cell q _ (by match q, hq4 with | 0, _ => rfl | 1, _ => rfl | 2, _ => rfl | 3, _ => rfl)
  have k6 : w1.cell? ⟨w.heap.size, 6, none⟩ = some (.int .u8 qu) := (hB.cell (p := ⟨w.heap.size, 6, none⟩) (by simp)).trans (by simp)
  have hsz : w.heap.size < w1.heap.size := by have := hB.size; simp at this; omega
  rw [World.size_alloc] at hP hB ⊢
  go_wp2_with fail
  have HL := hid (pm_start w w1 _ hP hB)
  have hpl := hP.lt
  clear hP hB hpq k6 hsz
  generalize World.alloc _ (.cells _ 105) = W at *
  have o1 : w.heap.size < w.heap.size + 1 + 1 := by omega
  generalize w.heap.size + 1 + 1 = pb at *
  generalize w1.heap.size = xP at *
  generalize hxC : w.heap.size = xC at *
  have HX : Hid (w.heap.size = xC) := hxC
  clear hxC
  have HI : Hid (ho % 5 ≤ 4) := by show ho % 5 ≤ 4; omega
  have lC := HL.out.bC.lt
  have lP := HL.out.bP.lt
  have a0 := HL.out.bP.cell 0 (K pb 0) rfl
  have a1 := HL.out.bP.cell 1 (K pb 1) rfl
  have a2 := HL.out.bP.cell 2 (K pb 2) rfl
  have a3 := HL.out.bP.cell 3 (K pb 3) rfl
  have k1 := HL.out.bC.cell 1 (.int .u8 ho) rfl
  go_region_held3 (fun w' => w'.cell? ⟨xP, 0, none⟩ = some (K pb 0) ∧ w'.cell? ⟨xP, 1, none⟩ = some (K pb 1) ∧ w'.cell? ⟨xP, 2, none⟩ = some (K pb 2) ∧ w'.cell? ⟨xP, 3, none⟩ = some (K pb 3) ∧ w'.cell? ⟨xC, 1, none⟩ = some (.int .u8 ho))
    (go_keep)
    (first | (go_at_call 15; refine (idx_any ho _ hh).mono ?_; rintro e w' ⟨rfl, rfl⟩) | (go_at_call 14; refine (pick_any pb (ho % 5) _ HI.out).mono ?_; rintro e w' ⟨rfl, rfl⟩))
  have HL1 := hid ((HL.out.alloc (.cells #[K pb 0, K pb 1, K pb 2, K pb 3] 105)).drew)
  clear HL a0 a1 a2 a3 k1 lC lP
  generalize (World.alloc _ _).drew = W1 at *
  have lC := HL1.out.bC.lt
  have k2 := HL1.out.bC.cell 2 (.int .u8 ki) rfl
  have k0 := HL1.out.bC.cell 0 (.bool true) rfl
  have lP := HL1.out.bP.lt
  have a0 := HL1.out.bP.cell 0 (K pb 0) rfl
  have a1 := HL1.out.bP.cell 1 (K pb 1) rfl
  have a2 := HL1.out.bP.cell 2 (K pb 2) rfl
  have a3 := HL1.out.bP.cell 3 (K pb 3) rfl
  have k1 := HL1.out.bC.cell 1 (.int .u8 ho) rfl
  have k3 := HL1.out.bC.cell 3 (.int .u8 f0) rfl
  have k4 := HL1.out.bC.cell 4 (.int .u8 f1) rfl
  have k5 := HL1.out.bC.cell 5 (.slice a len cap) rfl
  have k6 := HL1.out.bC.cell 6 (.int .u8 qu) rfl
  go_wp2_with (go_at_call 19; refine (swap_any _ _).mono ?_; rintro e w' ⟨rfl, rfl⟩)
  have HL2 := hid ((HL1.out.alloc (.cells (itemCells (.pointer (pp pb (ho % 5))) (.pointer none) (.int .u8 ki)) 97)).alloc (.cells (itemCells (.pointer (pp pb (ho % 5))) (.pointer none) (.int .u8 (swapV ki))) 97))
  have Ba := hid ((Blk.new' W1 (itemCells (.pointer (pp pb (ho % 5))) (.pointer none) (.int .u8 ki)) 97 W1.heap.size rfl).alloc (.cells (itemCells (.pointer (pp pb (ho % 5))) (.pointer none) (.int .u8 (swapV ki))) 97))
  have Bb := hid (Blk.new' (W1.alloc (.cells (itemCells (.pointer (pp pb (ho % 5))) (.pointer none) (.int .u8 ki)) 97)) (itemCells (.pointer (pp pb (ho % 5))) (.pointer none) (.int .u8 (swapV ki))) 97 (W1.heap.size + 1) (by simp))
  have oP := HL1.out.bP.lt
  have oab : W1.heap.size < W1.heap.size + 1 := by omega
  unfold itemCells at HL2 Ba Bb
  clear HL1 lC lP a0 a1 a2 a3 k0 k1 k2 k3 k4 k5 k6
  generalize World.alloc _ (.cells _ 97) = W2 at *
  generalize W1.heap.size + 1 = xb at *
  generalize W1.heap.size = xa at *
  refine (build_any pb true ho ki f0 f1 qu a len cap zs _ HL2.out.pool h0 h1 (by omega) HZ.out (row_at HX.out HRow.out HL2.out.bel) HBy.out).mono ?_
  rintro e w3 ⟨r, ps, rfl, hMap, hPool, hb3⟩
  have HL3 := hid (HL2.out.later hb3)
  have Ba3 := hid (Ba.out.later Ba.out.lt hb3)
  have Bb3 := hid (Bb.out.later Bb.out.lt hb3)
  have HM3 : Hid (MapAt w3 pb r ps) := hMap
  clear HL2 hb3 hMap hPool Ba Bb
  go_upto_region 10 with fail
  have HL4 := hid ((HL3.out.alloc (.cells #[.pointer (pp pb (f0 % 5)), .pointer (pp pb (f1 % 5)), .map r, .int .i64 0] 114)).alloc (.cells #[.int .i8 (mo 0 ps), .int .i8 (mo 1 ps), .int .i8 (mo 2 ps), .int .i8 (mo 3 ps)] 110))
  have Ba4 := hid ((Ba3.out.alloc (.cells #[.pointer (pp pb (f0 % 5)), .pointer (pp pb (f1 % 5)), .map r, .int .i64 0] 114)).alloc (.cells #[.int .i8 (mo 0 ps), .int .i8 (mo 1 ps), .int .i8 (mo 2 ps), .int .i8 (mo 3 ps)] 110))
  have Bb4 := hid ((Bb3.out.alloc (.cells #[.pointer (pp pb (f0 % 5)), .pointer (pp pb (f1 % 5)), .map r, .int .i64 0] 114)).alloc (.cells #[.int .i8 (mo 0 ps), .int .i8 (mo 1 ps), .int .i8 (mo 2 ps), .int .i8 (mo 3 ps)] 110))
  have Bs4 := hid ((Blk.new w3 #[.pointer (pp pb (f0 % 5)), .pointer (pp pb (f1 % 5)), .map r, .int .i64 0] 114).alloc (.cells #[.int .i8 (mo 0 ps), .int .i8 (mo 1 ps), .int .i8 (mo 2 ps), .int .i8 (mo 3 ps)] 110))
  have HM4 := hid (MapAt.later HM3.out (((Below.refl _ _).alloc (Nat.le_refl _) (.cells #[.pointer (pp pb (f0 % 5)), .pointer (pp pb (f1 % 5)), .map r, .int .i64 0] 114)).alloc (by simp) (.cells #[.int .i8 (mo 0 ps), .int .i8 (mo 1 ps), .int .i8 (mo 2 ps), .int .i8 (mo 3 ps)] 110)))
  have obs := Bb3.out.lt
  clear HL3 Ba3 Bb3 HM3
  generalize World.alloc _ (.cells #[.int .i8 (mo 0 ps), .int .i8 (mo 1 ps), .int .i8 (mo 2 ps), .int .i8 (mo 3 ps)] 110) = W4 at *
  generalize w3.heap.size + 1 = xm at *
  generalize w3.heap.size = xs at *
  have s0 := Bs4.out.cell 0 (.pointer (pp pb (f0 % 5))) rfl
  have s1 := Bs4.out.cell 1 (.pointer (pp pb (f1 % 5))) rfl
  have s2 := Bs4.out.cell 2 (.map r) rfl
  have s3 := Bs4.out.cell 3 (.int .i64 0) rfl
  have a5 := Ba4.out.cell 5 (.pointer none) rfl
  have g5 := Ba4.out.frozen 5
  have la := Ba4.out.lt
  go_upto_region 11 with fail
  have HL5 := hid ((HL4.out.far xa 5 (by omega) (.pointer (some ⟨W4.heap.size, 0, none⟩))).alloc (.cells #[.pointer (pp pb (f0 % 5)), .pointer (pp pb (f1 % 5)), .map r, .int .i64 0, .pointer none, .pointer none, .map none, .int .i64 0, .int .i64 0, .pointer none] 118))
  have Ba5 := hid ((Ba4.out.set 5 (.pointer (some ⟨W4.heap.size, 0, none⟩))).alloc (.cells #[.pointer (pp pb (f0 % 5)), .pointer (pp pb (f1 % 5)), .map r, .int .i64 0, .pointer none, .pointer none, .map none, .int .i64 0, .int .i64 0, .pointer none] 118))
  have Bb5 := hid ((Bb4.out.other (a := ⟨xa, 5, none⟩) (by simp; omega) (.pointer (some ⟨W4.heap.size, 0, none⟩))).alloc (.cells #[.pointer (pp pb (f0 % 5)), .pointer (pp pb (f1 % 5)), .map r, .int .i64 0, .pointer none, .pointer none, .map none, .int .i64 0, .int .i64 0, .pointer none] 118))
  have Bs5 := hid ((Bs4.out.other (a := ⟨xa, 5, none⟩) (by simp; omega) (.pointer (some ⟨W4.heap.size, 0, none⟩))).alloc (.cells #[.pointer (pp pb (f0 % 5)), .pointer (pp pb (f1 % 5)), .map r, .int .i64 0, .pointer none, .pointer none, .map none, .int .i64 0, .int .i64 0, .pointer none] 118))
  have BE := hid (Blk.new' (W4.setCell ⟨xa, 5, none⟩ (.pointer (some ⟨W4.heap.size, 0, none⟩))) #[.pointer (pp pb (f0 % 5)), .pointer (pp pb (f1 % 5)), .map r, .int .i64 0, .pointer none, .pointer none, .map none, .int .i64 0, .int .i64 0, .pointer none] 118 W4.heap.size (by simp))
  have HM5 := hid (MapAt.later (MapAt.setCell HM4.out Ba4.out 5 (.pointer (some ⟨W4.heap.size, 0, none⟩))) ((Below.refl _ _).alloc (Nat.le_refl _) (.cells #[.pointer (pp pb (f0 % 5)), .pointer (pp pb (f1 % 5)), .map r, .int .i64 0, .pointer none, .pointer none, .map none, .int .i64 0, .int .i64 0, .pointer none] 118)))
  have obe := Bb4.out.lt
  clear HL4 Ba4 Bb4 Bs4 HM4 s0 s1 s2 s3 a5 g5 la
  generalize World.alloc _ (.cells _ 118) = W5 at *
  generalize W4.heap.size = xe at *
  have s0 := Bs5.out.cell 0 (.pointer (pp pb (f0 % 5))) rfl
  have s1 := Bs5.out.cell 1 (.pointer (pp pb (f1 % 5))) rfl
  have s2 := Bs5.out.cell 2 (.map r) rfl
  have s3 := Bs5.out.cell 3 (.int .i64 0) rfl
  have b5 := Bb5.out.cell 5 (.pointer none) rfl
  have g5 := Bb5.out.frozen 5
  have lb := Bb5.out.lt
  go_upto_region 12 with fail
  have HL6 := hid ((HL5.out.far xb 5 (by omega) (.pointer (some ⟨W5.heap.size, 0, none⟩))).alloc (.cells #[.pointer none, .pointer none, .map none, .int .i64 0, .pointer (pp pb (f0 % 5)), .pointer (pp pb (f1 % 5)), .map r, .int .i64 0, .int .i64 0, .pointer none] 118))
  have Ba6 := hid ((Ba5.out.other (a := ⟨xb, 5, none⟩) (by simp; omega) (.pointer (some ⟨W5.heap.size, 0, none⟩))).alloc (.cells #[.pointer none, .pointer none, .map none, .int .i64 0, .pointer (pp pb (f0 % 5)), .pointer (pp pb (f1 % 5)), .map r, .int .i64 0, .int .i64 0, .pointer none] 118))
  have Bb6 := hid ((Bb5.out.set 5 (.pointer (some ⟨W5.heap.size, 0, none⟩))).alloc (.cells #[.pointer none, .pointer none, .map none, .int .i64 0, .pointer (pp pb (f0 % 5)), .pointer (pp pb (f1 % 5)), .map r, .int .i64 0, .int .i64 0, .pointer none] 118))
  have BE6 := hid ((BE.out.other (a := ⟨xb, 5, none⟩) (by simp; omega) (.pointer (some ⟨W5.heap.size, 0, none⟩))).alloc (.cells #[.pointer none, .pointer none, .map none, .int .i64 0, .pointer (pp pb (f0 % 5)), .pointer (pp pb (f1 % 5)), .map r, .int .i64 0, .int .i64 0, .pointer none] 118))
  have BF6 := hid (Blk.new' (W5.setCell ⟨xb, 5, none⟩ (.pointer (some ⟨W5.heap.size, 0, none⟩))) #[.pointer none, .pointer none, .map none, .int .i64 0, .pointer (pp pb (f0 % 5)), .pointer (pp pb (f1 % 5)), .map r, .int .i64 0, .int .i64 0, .pointer none] 118 W5.heap.size (by simp))
  have HM6 := hid (MapAt.later (MapAt.setCell HM5.out Bb5.out 5 (.pointer (some ⟨W5.heap.size, 0, none⟩))) ((Below.refl _ _).alloc (Nat.le_refl _) (.cells #[.pointer none, .pointer none, .map none, .int .i64 0, .pointer (pp pb (f0 % 5)), .pointer (pp pb (f1 % 5)), .map r, .int .i64 0, .int .i64 0, .pointer none] 118)))
  clear HL5 Ba5 Bb5 Bs5 BE HM5 s0 s1 s2 s3 b5 g5 lb
  generalize World.alloc _ (.cells _ 118) = W6 at *
  generalize W5.heap.size = xf at *
  have a5 := Ba6.out.cell 5 (.pointer (some ⟨xe, 0, none⟩)) rfl
  have b5 := Bb6.out.cell 5 (.pointer (some ⟨xf, 0, none⟩)) rfl
  have d0 := BE6.out.cell 0 (.pointer (pp pb (f0 % 5))) rfl
  have d1 := BE6.out.cell 1 (.pointer (pp pb (f1 % 5))) rfl
  have d2 := BE6.out.cell 2 (.map r) rfl
  have f4 := BF6.out.cell 4 (.pointer (pp pb (f0 % 5))) rfl
  have f5 := BF6.out.cell 5 (.pointer (pp pb (f1 % 5))) rfl
  have f6 := BF6.out.cell 6 (.map r) rfl
  go_wp2_with fail
  refine (read_multi xa xe pb (f0 % 5) (f1 % 5) q r ps _ HL6.out.pool hq4 a5 d0 d1 d2 HM6.out).mono ?_
  rintro e w7 ⟨rfl, rfl⟩
  go_wp2_with fail
  refine (written_multi xb xf pb (f0 % 5) (f1 % 5) q r ps _ HL6.out.pool hq4 b5 f4 f5 f6 HM6.out).mono ?_
  rintro e w8 ⟨rfl, rfl⟩
  go_wp2
  go_ret
  exact ⟨by simp, by rw [HX.out]; exact HL6.out.bel⟩
end Go.Proofs.Ybulkboaa.CMirrorWalk
