import Derived.Test.YbulkboaaCRead
import Derived.Deep.CutRange
namespace Go.Proofs.Ybulkboaa.CReadWalk
open Go.RowKit MapLaw CBase CHas CBuild CRead
set_option linter.unusedVariables false

theorem run_store_K (P : Program) (w : World) (a : Addr) (m : Mode) (pb i : Nat) : (store a (K pb i) m).run P w = stored P w a (K pb i) m := run_store P w a _ m rfl
attribute [local go_sem] run_store_K

/-- the law's memory: the case, the array of pointers, the item -/
structure LM (w W : World) (pb xC xP xI : Nat) (cc ic : Array Value) : Prop where
  bC : Blk W xC cc 104
  bP : Blk W xP #[K pb 0, K pb 1, K pb 2, K pb 3] 105
  bI : Blk W xI ic 97
  pool : Pool W pb
  bel : Below xC w W
  o1 : xC < pb
  o2 : pb + 4 ≤ xP
  o3 : xP < xI

section
variable {w W : World} {pb xC xP xI : Nat} {cc ic : Array Value}
theorem LM.drew (h : LM w W pb xC xP xI cc ic) : LM w W.drew pb xC xP xI cc ic := ⟨h.bC, h.bP, h.bI, h.pool, h.bel.drew, h.o1, h.o2, h.o3⟩
theorem LM.drewN (h : LM w W pb xC xP xI cc ic) (n : Nat) : LM w (W.drewN n) pb xC xP xI cc ic := ⟨h.bC, h.bP, h.bI, h.pool, h.bel.trans ⟨rfl, rfl, rfl, Nat.le_refl _, fun _ _ => rfl⟩, h.o1, h.o2, h.o3⟩
theorem LM.later {W' : World} (h : LM w W pb xC xP xI cc ic) (hb : Below W.heap.size W W') : LM w W' pb xC xP xI cc ic :=
  have hl := h.bI.lt; have e2 := h.o2; have e3 := h.o3; have e1 := h.o1
  ⟨h.bC.later (by omega) hb, h.bP.later (by omega) hb, h.bI.later hl hb, h.pool.later (by omega) hb, h.bel.trans (hb.mono (by omega)), h.o1, h.o2, h.o3⟩
theorem LM.alloc (h : LM w W pb xC xP xI cc ic) (o : Obj) : LM w (W.alloc o) pb xC xP xI cc ic := h.later ((Below.refl _ _).alloc (Nat.le_refl _) o)
theorem LM.setI (h : LM w W pb xC xP xI cc ic) (i : Nat) (v : Value) : LM w (W.setCell ⟨xI, i, none⟩ v) pb xC xP xI cc (ic.setIfInBounds i v) :=
  have e2 := h.o2; have e3 := h.o3; have e1 := h.o1
  ⟨h.bC.other (by simp; omega) _, h.bP.other (by simp; omega) _, h.bI.set i v, h.pool.later (B := xP) (by omega) ((Below.refl _ _).setCell (by simp; omega) _), h.bel.setCell (by simp; omega) _, h.o1, h.o2, h.o3⟩
end

/-- a row of bytes that came in reads the same in a later world -/
theorem row_at {w W : World} {xC : Nat} (hx : w.heap.size = xC) {a : Option Addr} {len : Nat} {zs : List Nat} (h : ∀ i, i < len → ∃ x, a = some x ∧ w.cell? (x.add i) = some (.int .u8 ((zs.getD i 0 : Nat) : Int))) (hb : Below xC w W) :
    ∀ i, i < len → ∃ x, a = some x ∧ W.cell? (x.add i) = some (.int .u8 ((zs.getD i 0 : Nat) : Int)) := fun i hi => by
  obtain ⟨x, hx', hc⟩ := h i hi
  have hlt := World.block_lt_of_cell? w _ hc
  exact ⟨x, hx', (hb.cell (by rw [← hx]; exact hlt)).trans hc⟩

theorem MapAt.setCell {W : World} {pb : Nat} {r : Option Nat} {ps : List Ent} (h : MapAt W pb r ps) {b : Nat} {cs : Array Value} {t : TypeId} (hb : Blk W b cs t) (i : Nat) (v : Value) : MapAt (W.setCell ⟨b, i, none⟩ v) pb r ps := by
  refine ⟨h.1, ?_⟩
  rcases h.2 with hn | ⟨mb, c, hr, hh⟩
  · exact .inl hn
  · refine .inr ⟨mb, c, hr, ?_⟩
    refine (Below.heap_setCell _ _ _ _ ?_).trans hh
    intro e
    simp only at e
    subst e
    unfold Blk at hb
    rw [hb] at hh
    cases hh
theorem MapAt.later {W W' : World} {pb : Nat} {r : Option Nat} {ps : List Ent} (h : MapAt W pb r ps) (hb : Below W.heap.size W W') : MapAt W' pb r ps := by
  refine ⟨h.1, ?_⟩
  rcases h.2 with hn | ⟨mb, c, hr, hh⟩
  · exact .inl hn
  · exact .inr ⟨mb, c, hr, (hb.block mb (block_lt hh)).trans hh⟩
theorem LM.far {w W : World} {pb xC xP xI : Nat} {cc ic : Array Value} (h : LM w W pb xC xP xI cc ic) (b i : Nat) (hb : xI < b) (v : Value) : LM w (W.setCell ⟨b, i, none⟩ v) pb xC xP xI cc ic :=
  have e2 := h.o2; have e3 := h.o3; have e1 := h.o1
  ⟨h.bC.other (by simp; omega) _, h.bP.other (by simp; omega) _, h.bI.other (by simp; omega) _, h.pool.later (B := xP) (by omega) ((Below.refl _ _).setCell (by simp; omega) _), h.bel.setCell (by simp; omega) _, h.o1, h.o2, h.o3⟩

theorem info118 : (Yba.prog.info? 118).map (fun i => i.size) = some 10 := by kernel_rfl
theorem eql92 (W : World) (a : Addr) : (binOp .eql 92 (.pointer (some a)) (.pointer (some a))).run Yba.prog W = .ok (.bool true) W := by
  obtain ⟨d, hd, hd2⟩ := Option.map_eq_some_iff.1 info118
  exact run_eql_ptr_same W a Yba.underlying92 hd

/-- the set and the model stored into the law's own variables -/
theorem after_build {w W : World} {pb xC xP xI xs xm : Nat} {cc ic : Array Value} (h : LM w W pb xC xP xI cc ic) (bm : Blk W xm #[.int .i8 0, .int .i8 0, .int .i8 0, .int .i8 0] 110) (bs : Blk W xs #[.pointer none, .pointer none, .map none, .int .i64 0] 114) (h1 : xI < xm) (h2 : xm < xs)
    {r : Option Nat} {ps : List Ent} (hm : MapAt W pb r ps) (p0 p1 m c0 c1 c2 c3 : Value) :
    LM w (((((((((W.setCell ⟨xs, 0, none⟩ p0).setCell ⟨xs, 1, none⟩ p1).setCell ⟨xs, 2, none⟩ m).setCell ⟨xs, 3, none⟩ (.int .i64 0)).setCell ⟨xm, 0, none⟩ c0).setCell ⟨xm, 1, none⟩ c1).setCell ⟨xm, 2, none⟩ c2).setCell ⟨xm, 3, none⟩ c3)) pb xC xP xI cc ic ∧ Blk (((((((((W.setCell ⟨xs, 0, none⟩ p0).setCell ⟨xs, 1, none⟩ p1).setCell ⟨xs, 2, none⟩ m).setCell ⟨xs, 3, none⟩ (.int .i64 0)).setCell ⟨xm, 0, none⟩ c0).setCell ⟨xm, 1, none⟩ c1).setCell ⟨xm, 2, none⟩ c2).setCell ⟨xm, 3, none⟩ c3)) xs #[p0, p1, m, .int .i64 0] 114 ∧ Blk (((((((((W.setCell ⟨xs, 0, none⟩ p0).setCell ⟨xs, 1, none⟩ p1).setCell ⟨xs, 2, none⟩ m).setCell ⟨xs, 3, none⟩ (.int .i64 0)).setCell ⟨xm, 0, none⟩ c0).setCell ⟨xm, 1, none⟩ c1).setCell ⟨xm, 2, none⟩ c2).setCell ⟨xm, 3, none⟩ c3)) xm #[c0, c1, c2, c3] 110 ∧ MapAt (((((((((W.setCell ⟨xs, 0, none⟩ p0).setCell ⟨xs, 1, none⟩ p1).setCell ⟨xs, 2, none⟩ m).setCell ⟨xs, 3, none⟩ (.int .i64 0)).setCell ⟨xm, 0, none⟩ c0).setCell ⟨xm, 1, none⟩ c1).setCell ⟨xm, 2, none⟩ c2).setCell ⟨xm, 3, none⟩ c3)) pb r ps := by
  have s1 := bs.set 0 p0
  have s2 := s1.set 1 p1
  have s3 := s2.set 2 m
  have s4 := s3.set 3 (.int .i64 0)
  have m1 := bm.other (a := ⟨xs, 0, none⟩) (by simp; omega) p0
  have m2 := m1.other (a := ⟨xs, 1, none⟩) (by simp; omega) p1
  have m3 := m2.other (a := ⟨xs, 2, none⟩) (by simp; omega) m
  have m4 := m3.other (a := ⟨xs, 3, none⟩) (by simp; omega) (.int .i64 0)
  have m5 := m4.set 0 c0
  have m6 := m5.set 1 c1
  have m7 := m6.set 2 c2
  refine ⟨(((((((h.far xs 0 (by omega) p0).far xs 1 (by omega) p1).far xs 2 (by omega) m).far xs 3 (by omega) _).far xm 0 (by omega) c0).far xm 1 (by omega) c1).far xm 2 (by omega) c2).far xm 3 (by omega) c3, ?_, m7.set 3 c3, ?_⟩
  · exact (((s4.other (a := ⟨xm, 0, none⟩) (by simp; omega) c0).other (a := ⟨xm, 1, none⟩) (by simp; omega) c1).other (a := ⟨xm, 2, none⟩) (by simp; omega) c2).other (a := ⟨xm, 3, none⟩) (by simp; omega) c3
  · exact MapAt.setCell (MapAt.setCell (MapAt.setCell (MapAt.setCell (MapAt.setCell (MapAt.setCell (MapAt.setCell (MapAt.setCell hm bs 0 p0) s1 1 p1) s2 2 m) s3 3 (.int .i64 0)) m4 0 c0) m5 1 c1) m6 2 c2) m7 3 c3

theorem lm_start (w w1 : World) (cc : Array Value) (hP : Pool w1 (w.heap.size + 1 + 1)) (hB : Below (w.heap.size + 1) (w.alloc (.cells cc 104)) w1) (ic : Array Value := itemCells (.pointer none) (.pointer none) (.int .u8 0)) :
    LM w ((w1.alloc (.cells #[K (w.heap.size + 1 + 1) 0, K (w.heap.size + 1 + 1) 1, K (w.heap.size + 1 + 1) 2, K (w.heap.size + 1 + 1) 3] 105)).alloc (.cells ic 97)) (w.heap.size + 1 + 1) w.heap.size w1.heap.size (w1.heap.size + 1) cc ic where
  bC := (((Blk.new w cc 104).later (by omega) hB).alloc _).alloc _
  bP := (Blk.new w1 _ 105).alloc _
  bI := Blk.new' _ ic 97 _ (by simp)
  pool := by
    have hl := hP.lt
    exact (hP.later (B := w1.heap.size) hl ((Below.refl _ _).alloc (Nat.le_refl _) _)).later (B := w1.heap.size) hl ((Below.refl _ _).alloc (by simp) _)
  bel := by
    have hs := hB.size
    simp at hs
    exact ((((Below.refl _ _).alloc (Nat.le_refl _) _).trans (hB.mono (by omega))).alloc (by omega) _).alloc (by simp; omega) _
  o1 := by omega
  o2 := hP.lt
  o3 := by omega

set_option maxRecDepth 100000 in
set_option maxHeartbeats 1600000 in
theorem walk_big (mu : Bool) (ho ki f0 f1 qu : Nat) (a : Option Addr) (len cap : Nat) (w : World) (hbig : 1024 < len) (hm : len ≤ maxLen) :
    Calls Yba.prog 6 #[.agg #[.bool mu, .int .u8 ho, .int .u8 ki, .int .u8 f0, .int .u8 f1, .slice a len cap, .int .u8 qu]] w fun e w' => e = .returned (.bool true) ∧ Below w.heap.size w w' := by
  unfold maxLen at hm
  go_enter Yba.func6, Yba.ntmps6
  go_wp2
  go_ret
  exact ⟨rfl, (Below.refl _ _).alloc (Nat.le_refl _) _⟩

set_option maxRecDepth 100000 in
set_option maxHeartbeats 3200000 in
theorem walk_one (ho ki f0 f1 qu : Nat) (a : Option Addr) (len cap : Nat) (w : World) (hlen : ¬ 1024 < len) (hh : ho ≤ 255) (hqu : qu ≤ 255) :
    Calls Yba.prog 6 #[.agg #[.bool false, .int .u8 ho, .int .u8 ki, .int .u8 f0, .int .u8 f1, .slice a len cap, .int .u8 qu]] w fun e w' => e = .returned (.bool true) ∧ Below w.heap.size w w' := by
  have hq : (qu : Int) % 4 = ((qu % 4 : Nat) : Int) := by omega
  have hq4 : qu % 4 < 4 := Nat.mod_lt _ (by decide)
  generalize qu % 4 = q at *
  have hq4' : (q : Int) < 4 := by omega
  go_enter Yba.func6, Yba.ntmps6
  go_wp2_with fail
  refine (pool_any _).mono ?_
  rintro e w1 ⟨rfl, hP, hB⟩
  have hpq : (w1.alloc (.cells #[K (w.heap.size + 1 + 1) 0, K (w.heap.size + 1 + 1) 1, K (w.heap.size + 1 + 1) 2, K (w.heap.size + 1 + 1) 3] 105)).cell? ⟨w1.heap.size, q, none⟩ = some (K (w.heap.size + 1 + 1) q) :=
    (Blk.new w1 _ 105).cell q _ (by match q, hq4 with | 0, _ => rfl | 1, _ => rfl | 2, _ => rfl | 3, _ => rfl)
  have k6 : w1.cell? ⟨w.heap.size, 6, none⟩ = some (.int .u8 qu) := (hB.cell (p := ⟨w.heap.size, 6, none⟩) (by simp)).trans (by simp)
  have hsz : w.heap.size < w1.heap.size := by have := hB.size; simp at this; omega
  rw [World.size_alloc] at hP hB ⊢
  go_wp2_with fail
  have HL : Hid (LM w ((w1.alloc (.cells #[K (w.heap.size + 1 + 1) 0, K (w.heap.size + 1 + 1) 1, K (w.heap.size + 1 + 1) 2, K (w.heap.size + 1 + 1) 3] 105)).alloc (.cells (itemCells (.pointer none) (.pointer none) (.int .u8 0)) 97)) (w.heap.size + 1 + 1) w.heap.size w1.heap.size (w1.heap.size + 1)
      #[.bool false, .int .u8 ho, .int .u8 ki, .int .u8 f0, .int .u8 f1, .slice a len cap, .int .u8 qu] (itemCells (.pointer none) (.pointer none) (.int .u8 0))) := lm_start w w1 _ hP hB
  have hpl := hP.lt
  unfold itemCells at HL
  clear hP hB hpq k6 hsz
  generalize World.alloc _ (.cells _ 97) = W at *
  have o1 : w.heap.size < w.heap.size + 1 + 1 := by omega
  generalize w.heap.size + 1 + 1 = pb at *
  have o3 : w1.heap.size < w1.heap.size + 1 := by omega
  generalize w1.heap.size + 1 = xI at *
  generalize w1.heap.size = xP at *
  generalize hxC : w.heap.size = xC at *
  have HX : Hid (w.heap.size = xC) := hxC
  clear hxC
  have HI : Hid (ho % 5 ≤ 4) := by show ho % 5 ≤ 4; omega
  have nC : ¬ xI = xC := by omega
  have nC' : ¬ xC = xI := by omega
  have nP : ¬ xI = xP := by omega
  have nP' : ¬ xP = xI := by omega
  have lC := HL.out.bC.lt
  have lP := HL.out.bP.lt
  have lI := HL.out.bI.lt
  have a0 := HL.out.bP.cell 0 (K pb 0) rfl
  have a1 := HL.out.bP.cell 1 (K pb 1) rfl
  have a2 := HL.out.bP.cell 2 (K pb 2) rfl
  have a3 := HL.out.bP.cell 3 (K pb 3) rfl
  have k1 := HL.out.bC.cell 1 (.int .u8 ho) rfl
  have i4 := HL.out.bI.cell 4 (.pointer none) rfl
  have g4 := HL.out.bI.frozen 4
  go_region_held3 (fun w' => w'.cell? ⟨xP, 0, none⟩ = some (K pb 0) ∧ w'.cell? ⟨xP, 1, none⟩ = some (K pb 1) ∧ w'.cell? ⟨xP, 2, none⟩ = some (K pb 2) ∧ w'.cell? ⟨xP, 3, none⟩ = some (K pb 3) ∧ w'.cell? ⟨xC, 1, none⟩ = some (.int .u8 ho))
    (go_keep)
    (first | (go_at_call 15; refine (idx_any ho _ hh).mono ?_; rintro e w' ⟨rfl, rfl⟩) | (go_at_call 14; refine (pick_any pb (ho % 5) _ HI.out).mono ?_; rintro e w' ⟨rfl, rfl⟩))
  have HL1 := hid (((HL.out.setI 4 (.pointer (pp pb (ho % 5)))).alloc (.cells #[K pb 0, K pb 1, K pb 2, K pb 3] 105)).drew)
  clear HL a0 a1 a2 a3 k1 i4 g4 lC lP lI
  generalize (World.alloc (World.setCell _ _ _) _).drew = W1 at *
  have lC := HL1.out.bC.lt
  have lI := HL1.out.bI.lt
  have k2 := HL1.out.bC.cell 2 (.int .u8 ki) rfl
  have k0 := HL1.out.bC.cell 0 (.bool false) rfl
  have k1 := HL1.out.bC.cell 1 (.int .u8 ho) rfl
  have k3 := HL1.out.bC.cell 3 (.int .u8 f0) rfl
  have k4 := HL1.out.bC.cell 4 (.int .u8 f1) rfl
  have k5 := HL1.out.bC.cell 5 (.slice a len cap) rfl
  have k6 := HL1.out.bC.cell 6 (.int .u8 qu) rfl
  have i8 := HL1.out.bI.cell 8 (.int .u8 0) rfl
  have g8 := HL1.out.bI.frozen 8
  go_wp2_with fail
  have HL2 := hid ((HL1.out.setI 8 (.int .u8 ki)).alloc (.cells #[.int .i8 0, .int .i8 0, .int .i8 0, .int .i8 0] 110))
  clear HL1 lC lI k0 k1 k2 k3 k4 k5 k6 i8 g8
  refine (want_one ho ki f0 f1 qu q a len cap (fun _ => 0) _ hh hq4).mono ?_
  rintro e w3 ⟨rfl, hb3⟩
  have HL3 := hid (HL2.out.later hb3)
  clear HL2 hb3
  have i4 := HL3.out.bI.cell 4 (.pointer (pp pb (ho % 5))) rfl
  have i5 := HL3.out.bI.cell 5 (.pointer none) rfl
  have i8 := HL3.out.bI.cell 8 (.int .u8 ki) rfl
  have hrf := fun W => eql_refl W pb (ho % 5)
  go_wp2_with fail
  go_quiet (fail)
  go_wp2_with fail
  refine (read_one xI pb (ho % 5) q ki _ (HL3.out.drewN _).pool hq4 i4 i5 i8).mono ?_
  rintro e w4 ⟨rfl, rfl⟩
  go_wp2
  go_ret
  exact ⟨by simp, by rw [HX.out]; exact (HL3.out.drewN _).bel⟩
set_option maxRecDepth 100000 in
set_option maxHeartbeats 800000 in
theorem walk_multi (ho ki f0 f1 qu : Nat) (a : Option Addr) (len cap : Nat) (w : World) (hlen : ¬ 1024 < len) (hh : ho ≤ 255) (hqu : qu ≤ 255) (h0 : f0 ≤ 255) (h1 : f1 ≤ 255) (zs : List Nat) (hz : zs.length = len)
    (hrow : ∀ i, i < len → ∃ x, a = some x ∧ w.cell? (x.add i) = some (.int .u8 ((zs.getD i 0 : Nat) : Int))) (hby : ∀ i, zs.getD i 0 ≤ 255) :
    Calls Yba.prog 6 #[.agg #[.bool true, .int .u8 ho, .int .u8 ki, .int .u8 f0, .int .u8 f1, .slice a len cap, .int .u8 qu]] w fun e w' => e = .returned (.bool true) ∧ Below w.heap.size w w' := by
  have HZ : Hid (zs.length = len) := hz
  have HRow : Hid (∀ i, i < len → ∃ x, a = some x ∧ w.cell? (x.add i) = some (.int .u8 ((zs.getD i 0 : Nat) : Int))) := hrow
  have HBy : Hid (∀ i, zs.getD i 0 ≤ 255) := hby
  clear hz hrow hby
  have hq : (qu : Int) % 4 = ((qu % 4 : Nat) : Int) := by omega
  have hq4 : qu % 4 < 4 := Nat.mod_lt _ (by decide)
  generalize qu % 4 = q at *
  have hq4' : (q : Int) < 4 := by omega
  go_enter Yba.func6, Yba.ntmps6
  go_wp2_with fail
  refine (pool_any _).mono ?_
  rintro e w1 ⟨rfl, hP, hB⟩
  have hpq : (w1.alloc (.cells #[K (w.heap.size + 1 + 1) 0, K (w.heap.size + 1 + 1) 1, K (w.heap.size + 1 + 1) 2, K (w.heap.size + 1 + 1) 3] 105)).cell? ⟨w1.heap.size, q, none⟩ = some (K (w.heap.size + 1 + 1) q) :=
    (Blk.new w1 _ 105).cell q _ (by match q, hq4 with | 0, _ => rfl | 1, _ => rfl | 2, _ => rfl | 3, _ => rfl)
  have k6 : w1.cell? ⟨w.heap.size, 6, none⟩ = some (.int .u8 qu) := (hB.cell (p := ⟨w.heap.size, 6, none⟩) (by simp)).trans (by simp)
  have hsz : w.heap.size < w1.heap.size := by have := hB.size; simp at this; omega
  rw [World.size_alloc] at hP hB ⊢
  go_wp2_with fail
  have HL : Hid (LM w ((w1.alloc (.cells #[K (w.heap.size + 1 + 1) 0, K (w.heap.size + 1 + 1) 1, K (w.heap.size + 1 + 1) 2, K (w.heap.size + 1 + 1) 3] 105)).alloc (.cells (itemCells (.pointer none) (.pointer none) (.int .u8 0)) 97)) (w.heap.size + 1 + 1) w.heap.size w1.heap.size (w1.heap.size + 1)
      #[.bool true, .int .u8 ho, .int .u8 ki, .int .u8 f0, .int .u8 f1, .slice a len cap, .int .u8 qu] (itemCells (.pointer none) (.pointer none) (.int .u8 0))) := lm_start w w1 _ hP hB
  have hpl := hP.lt
  unfold itemCells at HL
  clear hP hB hpq k6 hsz
  generalize World.alloc _ (.cells _ 97) = W at *
  have o1 : w.heap.size < w.heap.size + 1 + 1 := by omega
  generalize w.heap.size + 1 + 1 = pb at *
  have o3 : w1.heap.size < w1.heap.size + 1 := by omega
  generalize w1.heap.size + 1 = xI at *
  generalize w1.heap.size = xP at *
  generalize hxC : w.heap.size = xC at *
  have HX : Hid (w.heap.size = xC) := hxC
  clear hxC
  have HI : Hid (ho % 5 ≤ 4) := by show ho % 5 ≤ 4; omega
  have nC : ¬ xI = xC := by omega
  have nC' : ¬ xC = xI := by omega
  have nP : ¬ xI = xP := by omega
  have nP' : ¬ xP = xI := by omega
  have lC := HL.out.bC.lt
  have lP := HL.out.bP.lt
  have lI := HL.out.bI.lt
  have a0 := HL.out.bP.cell 0 (K pb 0) rfl
  have a1 := HL.out.bP.cell 1 (K pb 1) rfl
  have a2 := HL.out.bP.cell 2 (K pb 2) rfl
  have a3 := HL.out.bP.cell 3 (K pb 3) rfl
  have k1 := HL.out.bC.cell 1 (.int .u8 ho) rfl
  have i4 := HL.out.bI.cell 4 (.pointer none) rfl
  have g4 := HL.out.bI.frozen 4
  go_region_held3 (fun w' => w'.cell? ⟨xP, 0, none⟩ = some (K pb 0) ∧ w'.cell? ⟨xP, 1, none⟩ = some (K pb 1) ∧ w'.cell? ⟨xP, 2, none⟩ = some (K pb 2) ∧ w'.cell? ⟨xP, 3, none⟩ = some (K pb 3) ∧ w'.cell? ⟨xC, 1, none⟩ = some (.int .u8 ho))
    (go_keep)
    (first | (go_at_call 15; refine (idx_any ho _ hh).mono ?_; rintro e w' ⟨rfl, rfl⟩) | (go_at_call 14; refine (pick_any pb (ho % 5) _ HI.out).mono ?_; rintro e w' ⟨rfl, rfl⟩))
  have HL1 := hid (((HL.out.setI 4 (.pointer (pp pb (ho % 5)))).alloc (.cells #[K pb 0, K pb 1, K pb 2, K pb 3] 105)).drew)
  clear HL a0 a1 a2 a3 k1 i4 g4 lC lP lI
  generalize (World.alloc (World.setCell _ _ _) _).drew = W1 at *
  have lC := HL1.out.bC.lt
  have lI := HL1.out.bI.lt
  have k2 := HL1.out.bC.cell 2 (.int .u8 ki) rfl
  have k0 := HL1.out.bC.cell 0 (.bool true) rfl
  have lP := HL1.out.bP.lt
  have a0 := HL1.out.bP.cell 0 (K pb 0) rfl
  have a1 := HL1.out.bP.cell 1 (K pb 1) rfl
  have a2 := HL1.out.bP.cell 2 (K pb 2) rfl
  have a3 := HL1.out.bP.cell 3 (K pb 3) rfl
  have k1 := HL1.out.bC.cell 1 (.int .u8 ho) rfl
  have k3 := HL1.out.bC.cell 3 (.int .u8 f0) rfl
  have k4 := HL1.out.bC.cell 4 (.int .u8 f1) rfl
  have k5 := HL1.out.bC.cell 5 (.slice a len cap) rfl
  have k6 := HL1.out.bC.cell 6 (.int .u8 qu) rfl
  have i8 := HL1.out.bI.cell 8 (.int .u8 0) rfl
  have g8 := HL1.out.bI.frozen 8
  go_wp2_with fail
  have HL2 := hid (((HL1.out.setI 8 (.int .u8 ki)).alloc (.cells #[.int .i8 0, .int .i8 0, .int .i8 0, .int .i8 0] 110)).alloc (.cells #[.pointer none, .pointer none, .map none, .int .i64 0] 114))
  have Bm := hid ((Blk.new' (W1.setCell ⟨xI, 8, none⟩ (.int .u8 ki)) #[.int .i8 0, .int .i8 0, .int .i8 0, .int .i8 0] 110 W1.heap.size (by simp)).alloc (.cells #[.pointer none, .pointer none, .map none, .int .i64 0] 114))
  have Bs := hid (Blk.new' ((W1.setCell ⟨xI, 8, none⟩ (.int .u8 ki)).alloc (.cells #[.int .i8 0, .int .i8 0, .int .i8 0, .int .i8 0] 110)) #[.pointer none, .pointer none, .map none, .int .i64 0] 114 (W1.heap.size + 1) (by simp))
  clear a0 a1 a2 a3 lP HL1 lC k0 k1 k2 k3 k4 k5 k6 i8 g8
  have om : W1.heap.size < W1.heap.size + 1 := by omega
  generalize World.alloc _ (.cells #[.pointer none, .pointer none, .map none, .int .i64 0] 114) = W2 at *
  generalize W1.heap.size + 1 = xs at *
  generalize W1.heap.size = xm at *
  refine (build_any pb true ho ki f0 f1 qu a len cap zs _ HL2.out.pool h0 h1 (by omega) HZ.out (row_at HX.out HRow.out HL2.out.bel) HBy.out).mono ?_
  rintro e w3 ⟨r, ps, rfl, hMap, hPool, hb3⟩
  have HL3 := hid (HL2.out.later hb3)
  have Bm3 := hid (Bm.out.later Bm.out.lt hb3)
  have Bs3 := hid (Bs.out.later Bs.out.lt hb3)
  have HM3 : Hid (MapAt w3 pb r ps) := hMap
  clear HL2 hb3 hMap hPool Bm Bs
  have lm := Bm3.out.lt
  have ls := Bs3.out.lt
  have lI3 := HL3.out.bI.lt
  have m0 := Bm3.out.cell 0 (.int .i8 0) rfl
  have m1 := Bm3.out.cell 1 (.int .i8 0) rfl
  have m2 := Bm3.out.cell 2 (.int .i8 0) rfl
  have m3 := Bm3.out.cell 3 (.int .i8 0) rfl
  have fm0 := Bm3.out.frozen 0
  have fm1 := Bm3.out.frozen 1
  have fm2 := Bm3.out.frozen 2
  have fm3 := Bm3.out.frozen 3
  have s0 := Bs3.out.cell 0 (.pointer none) rfl
  have s1 := Bs3.out.cell 1 (.pointer none) rfl
  have s2 := Bs3.out.cell 2 (.map none) rfl
  have s3 := Bs3.out.cell 3 (.int .i64 0) rfl
  have fs0 := Bs3.out.frozen 0
  have fs1 := Bs3.out.frozen 1
  have fs2 := Bs3.out.frozen 2
  have fs3 := Bs3.out.frozen 3
  have i5 := HL3.out.bI.cell 5 (.pointer none) rfl
  have g5 := HL3.out.bI.frozen 5
  have nms : ¬ xm = xs := by omega
  have nms' : ¬ xs = xm := by omega
  have nIm : ¬ xI = xm := by omega
  have nIm' : ¬ xm = xI := by omega
  have nIs : ¬ xI = xs := by omega
  have nIs' : ¬ xs = xI := by omega
  go_upto_region 13 with fail
  have HA := hid (after_build HL3.out Bm3.out Bs3.out (by omega) (by omega) HM3.out (.pointer (pp pb (f0 % 5))) (.pointer (pp pb (f1 % 5))) (.map r) (.int .i8 (mo 0 ps)) (.int .i8 (mo 1 ps)) (.int .i8 (mo 2 ps)) (.int .i8 (mo 3 ps)))
  clear HL3 Bm3 Bs3 HM3 lm ls lI3 m0 m1 m2 m3 fm0 fm1 fm2 fm3 s0 s1 s2 s3 fs0 fs1 fs2 fs3 i5 g5
  generalize World.setCell _ ⟨xm, 3, none⟩ _ = W4 at *
  obtain ⟨hL4, bs4, bm4, hM4⟩ := HA.out
  have HL4 := hid hL4
  have HM4 := hid hM4
  have Bs4 := hid bs4
  have Bm4 := hid bm4
  clear HA hL4 bs4 bm4 hM4
  have s0 := Bs4.out.cell 0 (.pointer (pp pb (f0 % 5))) rfl
  have s1 := Bs4.out.cell 1 (.pointer (pp pb (f1 % 5))) rfl
  have s2 := Bs4.out.cell 2 (.map r) rfl
  have s3 := Bs4.out.cell 3 (.int .i64 0) rfl
  have i5 := HL4.out.bI.cell 5 (.pointer none) rfl
  have g5 := HL4.out.bI.frozen 5
  have lI4 := HL4.out.bI.lt
  go_upto_region 14 with fail
  have HL5 := hid ((HL4.out.setI 5 (.pointer (some ⟨W4.heap.size, 0, none⟩))).alloc (.cells #[.pointer (pp pb (f0 % 5)), .pointer (pp pb (f1 % 5)), .map r, .int .i64 0, .pointer none, .pointer none, .map none, .int .i64 0, .int .i64 0, .pointer none] 118))
  have BE := hid (Blk.new' (W4.setCell ⟨xI, 5, none⟩ (.pointer (some ⟨W4.heap.size, 0, none⟩))) #[.pointer (pp pb (f0 % 5)), .pointer (pp pb (f1 % 5)), .map r, .int .i64 0, .pointer none, .pointer none, .map none, .int .i64 0, .int .i64 0, .pointer none] 118 W4.heap.size (by simp))
  have Bm5 := hid ((Bm4.out.other (a := ⟨xI, 5, none⟩) (by simp; omega) (.pointer (some ⟨W4.heap.size, 0, none⟩))).alloc (.cells #[.pointer (pp pb (f0 % 5)), .pointer (pp pb (f1 % 5)), .map r, .int .i64 0, .pointer none, .pointer none, .map none, .int .i64 0, .int .i64 0, .pointer none] 118))
  have HM5 := hid (MapAt.later (MapAt.setCell HM4.out HL4.out.bI 5 (.pointer (some ⟨W4.heap.size, 0, none⟩))) ((Below.refl _ _).alloc (Nat.le_refl _) (.cells #[.pointer (pp pb (f0 % 5)), .pointer (pp pb (f1 % 5)), .map r, .int .i64 0, .pointer none, .pointer none, .map none, .int .i64 0, .int .i64 0, .pointer none] 118)))
  clear HL4 Bs4 Bm4 HM4 s0 s1 s2 s3 i5 g5 lI4
  generalize World.alloc _ (.cells _ 118) = W5 at *
  generalize W4.heap.size = xe at *
  have k0 := HL5.out.bC.cell 0 (.bool true) rfl
  have k1 := HL5.out.bC.cell 1 (.int .u8 ho) rfl
  have k2 := HL5.out.bC.cell 2 (.int .u8 ki) rfl
  have k3 := HL5.out.bC.cell 3 (.int .u8 f0) rfl
  have k4 := HL5.out.bC.cell 4 (.int .u8 f1) rfl
  have k5 := HL5.out.bC.cell 5 (.slice a len cap) rfl
  have k6 := HL5.out.bC.cell 6 (.int .u8 qu) rfl
  have m0 := Bm5.out.cell 0 (.int .i8 (mo 0 ps)) rfl
  have m1 := Bm5.out.cell 1 (.int .i8 (mo 1 ps)) rfl
  have m2 := Bm5.out.cell 2 (.int .i8 (mo 2 ps)) rfl
  have m3 := Bm5.out.cell 3 (.int .i8 (mo 3 ps)) rfl
  go_wp2_with fail
  refine (want_multi ho ki f0 f1 qu q a len cap (fun i => mo i ps) _ h0 h1 hq4).mono ?_
  rintro e w6 ⟨rfl, hb6⟩
  have HL6 := hid (HL5.out.later hb6)
  have BE6 := hid (BE.out.later BE.out.lt hb6)
  have HM6 := hid (MapAt.later HM5.out hb6)
  clear HL5 BE Bm5 HM5 hb6 k0 k1 k2 k3 k4 k5 k6 m0 m1 m2 m3
  have i4 := HL6.out.bI.cell 4 (.pointer (pp pb (ho % 5))) rfl
  have i5 := HL6.out.bI.cell 5 (.pointer (some ⟨xe, 0, none⟩)) rfl
  have i8 := HL6.out.bI.cell 8 (.int .u8 ki) rfl
  have d0 := BE6.out.cell 0 (.pointer (pp pb (f0 % 5))) rfl
  have d1 := BE6.out.cell 1 (.pointer (pp pb (f1 % 5))) rfl
  have d2 := BE6.out.cell 2 (.map r) rfl
  have hrf := fun W => eql_refl W pb (ho % 5)
  have hrf2 := fun W => eql92 W ⟨xe, 0, none⟩
  rw [mo_val]
  go_wp2_with fail
  go_quiet (fail)
  go_wp2_with fail
  refine (read_multi xI xe pb (f0 % 5) (f1 % 5) q r ps _ (HL6.out.drewN _).pool hq4 i5 d0 d1 d2 (MapAt.later HM6.out ⟨rfl, rfl, rfl, Nat.le_refl _, fun _ _ => rfl⟩)).mono ?_
  rintro e w7 ⟨rfl, rfl⟩
  go_wp2
  go_ret
  exact ⟨by simp, by rw [HX.out]; exact (HL6.out.drewN _).bel⟩
end Go.Proofs.Ybulkboaa.CReadWalk
