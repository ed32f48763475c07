import Derived.Test.YbulkboaaCHas
namespace Go.Proofs.Ybulkboaa.CBuild
open Go.RowKit MapLaw CBase CHas
set_option linter.unusedVariables false

/-- the model of one transaction: 0: no key, 1: true, 2: false -/
def mo (q : Nat) (ps : List Ent) : Int := match lookE q ps with | none => 0 | some (.bool true) => 1 | _ => 2

/-- the models of the four, as cells -/
def mmOf (ps : List Ent) : Array Value := #[.int .i8 (mo 0 ps), .int .i8 (mo 1 ps), .int .i8 (mo 2 ps), .int .i8 (mo 3 ps)]

theorem mo_upd (q i : Nat) (b : Bool) (c : Nat) (ps : List Ent) : mo q (upd i (.bool b) c ps) = if q = i then (if b then 1 else 2) else mo q ps := by
  unfold mo
  rw [lookE_upd]
  by_cases h : q = i
  · simp only [h, if_true]
    cases b <;> rfl
  · simp only [h, if_false]

theorem mmOf_upd (i : Nat) (hi : i < 4) (b : Bool) (c : Nat) (ps : List Ent) : (mmOf ps).setIfInBounds i (.int .i8 (if b then 1 else 2)) = mmOf (upd i (.bool b) c ps) := by
  unfold mmOf
  match i, hi with
  | 0, _ => simp [mo_upd]
  | 1, _ => simp [mo_upd]
  | 2, _ => simp [mo_upd]
  | 3, _ => simp [mo_upd]

theorem upd_ok (i : Nat) (hi : i < 4) (b : Bool) (c : Nat) (ps : List Ent) (h : ∀ p ∈ ps, p.1 < 4 ∧ ∃ b, p.2.1 = .bool b) : ∀ p ∈ upd i (.bool b) c ps, p.1 < 4 ∧ ∃ b, p.2.1 = .bool b := by
  induction ps with
  | nil => intro p hp; simp [upd] at hp; subst hp; exact ⟨hi, b, rfl⟩
  | cons x xs ih =>
    intro p hp
    unfold upd at hp
    split at hp
    · simp only [List.mem_cons] at hp
      rcases hp with rfl | hp
      · exact ⟨(h x (by simp)).1, b, rfl⟩
      · exact h p (by simp [hp])
    · simp only [List.mem_cons] at hp
      rcases hp with rfl | hp
      · exact h p (by simp)
      · exact ih (fun y hy => h y (by simp [hy])) p hp

theorem and3 : ∀ e : Fin 256, bits BinOp.and IntKind.u8 ((e.val : Nat) : Int) 3 = ((e.val % 4 : Nat) : Int) := by decide +kernel

/-- six blocks made one after the other -/
theorem six (w : World) (c0 c1 c2 c3 c4 c5 : Array Value) (t0 t1 t2 t3 t4 t5 : TypeId) :
    Blk ((((((w.alloc (.cells c0 t0)).alloc (.cells c1 t1)).alloc (.cells c2 t2)).alloc (.cells c3 t3)).alloc (.cells c4 t4)).alloc (.cells c5 t5)) w.heap.size c0 t0 ∧
    Blk ((((((w.alloc (.cells c0 t0)).alloc (.cells c1 t1)).alloc (.cells c2 t2)).alloc (.cells c3 t3)).alloc (.cells c4 t4)).alloc (.cells c5 t5)) (w.heap.size + 1) c1 t1 ∧
    Blk ((((((w.alloc (.cells c0 t0)).alloc (.cells c1 t1)).alloc (.cells c2 t2)).alloc (.cells c3 t3)).alloc (.cells c4 t4)).alloc (.cells c5 t5)) (w.heap.size + 1 + 1) c2 t2 ∧
    Blk ((((((w.alloc (.cells c0 t0)).alloc (.cells c1 t1)).alloc (.cells c2 t2)).alloc (.cells c3 t3)).alloc (.cells c4 t4)).alloc (.cells c5 t5)) (w.heap.size + 1 + 1 + 1) c3 t3 ∧
    Blk ((((((w.alloc (.cells c0 t0)).alloc (.cells c1 t1)).alloc (.cells c2 t2)).alloc (.cells c3 t3)).alloc (.cells c4 t4)).alloc (.cells c5 t5)) (w.heap.size + 1 + 1 + 1 + 1) c4 t4 ∧
    Blk ((((((w.alloc (.cells c0 t0)).alloc (.cells c1 t1)).alloc (.cells c2 t2)).alloc (.cells c3 t3)).alloc (.cells c4 t4)).alloc (.cells c5 t5)) (w.heap.size + 1 + 1 + 1 + 1 + 1) c5 t5 ∧
    Below w.heap.size w ((((((w.alloc (.cells c0 t0)).alloc (.cells c1 t1)).alloc (.cells c2 t2)).alloc (.cells c3 t3)).alloc (.cells c4 t4)).alloc (.cells c5 t5)) :=
  ⟨((((((Blk.new' w c0 t0 _ rfl).alloc _).alloc _).alloc _).alloc _).alloc _), (((((Blk.new' _ c1 t1 _ (by simp)).alloc _).alloc _).alloc _).alloc _), ((((Blk.new' _ c2 t2 _ (by simp)).alloc _).alloc _).alloc _),
   (((Blk.new' _ c3 t3 _ (by simp)).alloc _).alloc _), ((Blk.new' _ c4 t4 _ (by simp)).alloc _), (Blk.new' _ c5 t5 _ (by simp)),
   ((((((Below.refl _ _).alloc (Nat.le_refl _) _).alloc (by simp) _).alloc (by simp; omega) _).alloc (by simp; omega) _).alloc (by simp; omega) _).alloc (by simp; omega) _⟩

theorem hid {p : Prop} (h : p) : Hid p := h
theorem setBlock_same (W : World) (r : Nat) (o : Obj) (h : r < W.heap.size) : (ChangeMaps.setBlock W r o).heap[r]? = some o := by
  simp [ChangeMaps.setBlock, h]
theorem block_lt {W : World} {r : Nat} {o : Obj} (h : W.heap[r]? = some o) : r < W.heap.size := (Array.getElem?_eq_some_iff.1 h).1

/-- the memory of the build, wherever its blocks lie -/
structure Mem (w W : World) (pb xA xC xR xS xs xm : Nat) (cc : Array Value) (p0 p1 m : Value) (mm : Array Value) : Prop where
  bA : Blk W xA #[K pb 0, K pb 1, K pb 2, K pb 3] 105
  bC : Blk W xC cc 104
  bR : Blk W xR #[.pointer none, .pointer none, .map none, .int .i64 0] 114
  bS : Blk W xS #[.int .i8 0, .int .i8 0, .int .i8 0, .int .i8 0] 110
  bs : Blk W xs #[p0, p1, m, .int .i64 0] 114
  bm : Blk W xm mm 110
  pool : Pool W pb
  bel : Below xA w W
  o1 : pb + 4 ≤ xA
  o2 : xA < xC
  o3 : xC < xR
  o4 : xR < xS
  o5 : xS < xs
  o6 : xs < xm

section
variable {w W : World} {pb xA xC xR xS xs xm : Nat} {cc : Array Value} {p0 p1 m : Value} {mm : Array Value}
theorem Mem.lt (h : Mem w W pb xA xC xR xS xs xm cc p0 p1 m mm) : xm < W.heap.size := h.bm.lt
theorem Mem.drew (h : Mem w W pb xA xC xR xS xs xm cc p0 p1 m mm) : Mem w W.drew pb xA xC xR xS xs xm cc p0 p1 m mm :=
  ⟨h.bA, h.bC, h.bR, h.bS, h.bs, h.bm, h.pool, h.bel.drew, h.o1, h.o2, h.o3, h.o4, h.o5, h.o6⟩
theorem Mem.alloc (h : Mem w W pb xA xC xR xS xs xm cc p0 p1 m mm) (o : Obj) : Mem w (W.alloc o) pb xA xC xR xS xs xm cc p0 p1 m mm :=
  ⟨h.bA.alloc o, h.bC.alloc o, h.bR.alloc o, h.bS.alloc o, h.bs.alloc o, h.bm.alloc o, h.pool.later (B := xA) h.o1 ((Below.refl _ _).alloc (Nat.le_of_lt h.bA.lt) o), h.bel.alloc (Nat.le_of_lt h.bA.lt) o, h.o1, h.o2, h.o3, h.o4, h.o5, h.o6⟩
theorem Mem.set0 (h : Mem w W pb xA xC xR xS xs xm cc p0 p1 m mm) (v : Value) : Mem w (W.setCell ⟨xs, 0, none⟩ v) pb xA xC xR xS xs xm cc v p1 m mm :=
  have e := h.o2; have e3 := h.o3; have e4 := h.o4; have e5 := h.o5; have e6 := h.o6
  ⟨h.bA.other (by simp; omega) _, h.bC.other (by simp; omega) _, h.bR.other (by simp; omega) _, h.bS.other (by simp; omega) _, h.bs.set 0 v, h.bm.other (by simp; omega) _, h.pool.later (B := xA) h.o1 ((Below.refl _ _).setCell (by simp; omega) _), h.bel.setCell (by simp; omega) _, h.o1, h.o2, h.o3, h.o4, h.o5, h.o6⟩
theorem Mem.set1 (h : Mem w W pb xA xC xR xS xs xm cc p0 p1 m mm) (v : Value) : Mem w (W.setCell ⟨xs, 1, none⟩ v) pb xA xC xR xS xs xm cc p0 v m mm :=
  have e := h.o2; have e3 := h.o3; have e4 := h.o4; have e5 := h.o5; have e6 := h.o6
  ⟨h.bA.other (by simp; omega) _, h.bC.other (by simp; omega) _, h.bR.other (by simp; omega) _, h.bS.other (by simp; omega) _, h.bs.set 1 v, h.bm.other (by simp; omega) _, h.pool.later (B := xA) h.o1 ((Below.refl _ _).setCell (by simp; omega) _), h.bel.setCell (by simp; omega) _, h.o1, h.o2, h.o3, h.o4, h.o5, h.o6⟩
theorem Mem.set2 (h : Mem w W pb xA xC xR xS xs xm cc p0 p1 m mm) (v : Value) : Mem w (W.setCell ⟨xs, 2, none⟩ v) pb xA xC xR xS xs xm cc p0 p1 v mm :=
  have e := h.o2; have e3 := h.o3; have e4 := h.o4; have e5 := h.o5; have e6 := h.o6
  ⟨h.bA.other (by simp; omega) _, h.bC.other (by simp; omega) _, h.bR.other (by simp; omega) _, h.bS.other (by simp; omega) _, h.bs.set 2 v, h.bm.other (by simp; omega) _, h.pool.later (B := xA) h.o1 ((Below.refl _ _).setCell (by simp; omega) _), h.bel.setCell (by simp; omega) _, h.o1, h.o2, h.o3, h.o4, h.o5, h.o6⟩
theorem Mem.setm (h : Mem w W pb xA xC xR xS xs xm cc p0 p1 m mm) (i : Nat) (v : Value) : Mem w (W.setCell ⟨xm, i, none⟩ v) pb xA xC xR xS xs xm cc p0 p1 m (mm.setIfInBounds i v) :=
  have e := h.o2; have e3 := h.o3; have e4 := h.o4; have e5 := h.o5; have e6 := h.o6
  ⟨h.bA.other (by simp; omega) _, h.bC.other (by simp; omega) _, h.bR.other (by simp; omega) _, h.bS.other (by simp; omega) _, h.bs.other (by simp; omega) _, h.bm.set i v, h.pool.later (B := xA) h.o1 ((Below.refl _ _).setCell (by simp; omega) _), h.bel.setCell (by simp; omega) _, h.o1, h.o2, h.o3, h.o4, h.o5, h.o6⟩
theorem Mem.setm' (h : Mem w W pb xA xC xR xS xs xm cc p0 p1 m mm) (i : Nat) (v : Value) {mm' : Array Value} (e : mm.setIfInBounds i v = mm') : Mem w (W.setCell ⟨xm, i, none⟩ v) pb xA xC xR xS xs xm cc p0 p1 m mm' := by
  subst e; exact h.setm i v
theorem Below.setBlock {B : Nat} {a w : World} (h : Below B a w) {r : Nat} (hr : B ≤ r) (o : Obj) : Below B a (ChangeMaps.setBlock w r o) :=
  h.trans ⟨rfl, rfl, rfl, by simp [ChangeMaps.setBlock], fun k hk => by simp only [ChangeMaps.setBlock]; rw [Array.getElem?_setIfInBounds_ne (by omega)]⟩
theorem Mem.setBlock (h : Mem w W pb xA xC xR xS xs xm cc p0 p1 m mm) (r : Nat) (hr : xm < r) (o : Obj) : Mem w (ChangeMaps.setBlock W r o) pb xA xC xR xS xs xm cc p0 p1 m mm :=
  have e := h.o2; have e3 := h.o3; have e4 := h.o4; have e5 := h.o5; have e6 := h.o6
  ⟨h.bA.map (by omega) _, h.bC.map (by omega) _, h.bR.map (by omega) _, h.bS.map (by omega) _, h.bs.map (by omega) _, h.bm.map (by omega) _, h.pool.later (B := xA) h.o1 (Below.setBlock (Below.refl _ _) (by omega) _), Below.setBlock h.bel (by omega) _, h.o1, h.o2, h.o3, h.o4, h.o5, h.o6⟩
end

theorem far {W : World} {a : Addr} {v : Value} {mb : Nat} {o : Option Obj} (h : mb ≠ a.block) (hh : W.heap[mb]? = o) : (W.setCell a v).heap[mb]? = o := (Below.heap_setCell _ _ _ _ h).trans hh
theorem farD {W : World} {mb : Nat} {o : Option Obj} (hh : W.heap[mb]? = o) : W.drew.heap[mb]? = o := hh

/-- the two results stored -/
theorem fin_mem {w W : World} {pb xA xC xR xS xs xm : Nat} {cc : Array Value} {p0 p1 m : Value} {mm : Array Value} (h : Mem w W pb xA xC xR xS xs xm cc p0 p1 m mm) (c0 c1 c2 c3 : Value) {r : Option Nat} {ps : List Ent} (hm : MapAt W pb r ps) (hr : ∀ mb, r = some mb → xm < mb) :
    Blk (((((((((W.setCell ⟨xR, 0, none⟩ p0).setCell ⟨xR, 1, none⟩ p1).setCell ⟨xR, 2, none⟩ m).setCell ⟨xR, 3, none⟩ (.int .i64 0)).setCell ⟨xS, 0, none⟩ c0).setCell ⟨xS, 1, none⟩ c1).setCell ⟨xS, 2, none⟩ c2).setCell ⟨xS, 3, none⟩ c3).drew) xR #[p0, p1, m, .int .i64 0] 114 ∧ Blk (((((((((W.setCell ⟨xR, 0, none⟩ p0).setCell ⟨xR, 1, none⟩ p1).setCell ⟨xR, 2, none⟩ m).setCell ⟨xR, 3, none⟩ (.int .i64 0)).setCell ⟨xS, 0, none⟩ c0).setCell ⟨xS, 1, none⟩ c1).setCell ⟨xS, 2, none⟩ c2).setCell ⟨xS, 3, none⟩ c3).drew) xS #[c0, c1, c2, c3] 110 ∧ MapAt (((((((((W.setCell ⟨xR, 0, none⟩ p0).setCell ⟨xR, 1, none⟩ p1).setCell ⟨xR, 2, none⟩ m).setCell ⟨xR, 3, none⟩ (.int .i64 0)).setCell ⟨xS, 0, none⟩ c0).setCell ⟨xS, 1, none⟩ c1).setCell ⟨xS, 2, none⟩ c2).setCell ⟨xS, 3, none⟩ c3).drew) pb r ps ∧ Pool (((((((((W.setCell ⟨xR, 0, none⟩ p0).setCell ⟨xR, 1, none⟩ p1).setCell ⟨xR, 2, none⟩ m).setCell ⟨xR, 3, none⟩ (.int .i64 0)).setCell ⟨xS, 0, none⟩ c0).setCell ⟨xS, 1, none⟩ c1).setCell ⟨xS, 2, none⟩ c2).setCell ⟨xS, 3, none⟩ c3).drew) pb ∧ Below xA w (((((((((W.setCell ⟨xR, 0, none⟩ p0).setCell ⟨xR, 1, none⟩ p1).setCell ⟨xR, 2, none⟩ m).setCell ⟨xR, 3, none⟩ (.int .i64 0)).setCell ⟨xS, 0, none⟩ c0).setCell ⟨xS, 1, none⟩ c1).setCell ⟨xS, 2, none⟩ c2).setCell ⟨xS, 3, none⟩ c3).drew) := by
  have e := h.o2; have e3 := h.o3; have e4 := h.o4; have e5 := h.o5; have e6 := h.o6
  have hb : Below xA W (((((((((W.setCell ⟨xR, 0, none⟩ p0).setCell ⟨xR, 1, none⟩ p1).setCell ⟨xR, 2, none⟩ m).setCell ⟨xR, 3, none⟩ (.int .i64 0)).setCell ⟨xS, 0, none⟩ c0).setCell ⟨xS, 1, none⟩ c1).setCell ⟨xS, 2, none⟩ c2).setCell ⟨xS, 3, none⟩ c3).drew) := (((((((((Below.refl _ _).setCell (by simp; omega) _).setCell (by simp; omega) _).setCell (by simp; omega) _).setCell (by simp; omega) _).setCell (by simp; omega) _).setCell (by simp; omega) _).setCell (by simp; omega) _).setCell (by simp; omega) _).drew
  refine ⟨?_, ?_, ⟨hm.1, ?_⟩, h.pool.later h.o1 hb, h.bel.trans hb⟩
  · exact (((((((((h.bR.set 0 p0).set 1 p1).set 2 m).set 3 (.int .i64 0)).other (a := ⟨xS, 0, none⟩) (by simp; omega) c0).other (a := ⟨xS, 1, none⟩) (by simp; omega) c1).other (a := ⟨xS, 2, none⟩) (by simp; omega) c2).other (a := ⟨xS, 3, none⟩) (by simp; omega) c3)).drew
  · exact (((((((((h.bS.other (a := ⟨xR, 0, none⟩) (by simp; omega) p0).other (a := ⟨xR, 1, none⟩) (by simp; omega) p1).other (a := ⟨xR, 2, none⟩) (by simp; omega) m).other (a := ⟨xR, 3, none⟩) (by simp; omega) (.int .i64 0)).set 0 c0).set 1 c1).set 2 c2).set 3 c3)).drew
  · rcases hm.2 with hn | ⟨mb, c, hmb, hh⟩
    · exact .inl hn
    · have hlt := hr mb hmb
      refine .inr ⟨mb, c, hmb, ?_⟩
      refine farD (far ?_ (far ?_ (far ?_ (far ?_ (far ?_ (far ?_ (far ?_ (far ?_ hh))))))))
      all_goals (simp; omega)

set_option maxRecDepth 100000 in
set_option maxHeartbeats 1600000 in
theorem build_any (pb : Nat) (mu : Bool) (ho ki f0 f1 qu : Nat) (a : Option Addr) (len cap : Nat) (zs : List Nat) (w : World) (hp : Pool w pb) (h0 : f0 ≤ 255) (h1 : f1 ≤ 255) (hlen : len ≤ 1024) (hz : zs.length = len)
    (hrow : ∀ i, i < len → ∃ x, a = some x ∧ w.cell? (x.add i) = some (.int .u8 ((zs.getD i 0 : Nat) : Int))) (hby : ∀ i, zs.getD i 0 ≤ 255) :
    Calls Yba.prog 16 #[.agg #[K pb 0, K pb 1, K pb 2, K pb 3], .agg #[.bool mu, .int .u8 ho, .int .u8 ki, .int .u8 f0, .int .u8 f1, .slice a len cap, .int .u8 qu]] w fun e w' => ∃ r ps,
      e = .returned (.tuple #[.agg #[.pointer (pp pb (f0 % 5)), .pointer (pp pb (f1 % 5)), .map r, .int .i64 0], .agg #[.int .i8 (mo 0 ps), .int .i8 (mo 1 ps), .int .i8 (mo 2 ps), .int .i8 (mo 3 ps)]]) ∧
      MapAt w' pb r ps ∧ Pool w' pb ∧ Below w.heap.size w w' := by
  have HRow : Hid (∀ i, i < len → ∃ x, a = some x ∧ (x.add i).block < w.heap.size ∧ w.cell? (x.add i) = some (.int .u8 ((zs.getD i 0 : Nat) : Int))) := fun i hi => by
    obtain ⟨x, hx, hc⟩ := hrow i hi
    exact ⟨x, hx, World.block_lt_of_cell? w _ hc, hc⟩
  have HBy : Hid (∀ i, zs.getD i 0 ≤ 255) := hby
  clear hrow hby
  have hpl := hp.lt
  have hmm := @run_makeMap Yba.prog
  go_enter Yba.func16, Yba.ntmps16
  go_wp2
  obtain ⟨bA, bC, bR, bS, bs, bm, hbel⟩ := six w #[K pb 0, K pb 1, K pb 2, K pb 3] #[.bool mu, .int .u8 ho, .int .u8 ki, .int .u8 f0, .int .u8 f1, .slice a len cap, .int .u8 qu] #[.pointer none, .pointer none, .map none, .int .i64 0]
    #[.int .i8 0, .int .i8 0, .int .i8 0, .int .i8 0] #[.pointer none, .pointer none, .map none, .int .i64 0] #[.int .i8 0, .int .i8 0, .int .i8 0, .int .i8 0] 105 104 114 110 114 110
  generalize (World.alloc _ (.cells #[.int .i8 0, .int .i8 0, .int .i8 0, .int .i8 0] 110)) = W at *
  have hAC : w.heap.size < w.heap.size + 1 := by omega
  have hCR : w.heap.size + 1 < w.heap.size + 1 + 1 := by omega
  have hRS : w.heap.size + 1 + 1 < w.heap.size + 1 + 1 + 1 := by omega
  have hSs : w.heap.size + 1 + 1 + 1 < w.heap.size + 1 + 1 + 1 + 1 := by omega
  have hsm : w.heap.size + 1 + 1 + 1 + 1 < w.heap.size + 1 + 1 + 1 + 1 + 1 := by omega
  generalize w.heap.size + 1 + 1 + 1 + 1 + 1 = xm at *
  generalize w.heap.size + 1 + 1 + 1 + 1 = xs at *
  generalize w.heap.size + 1 + 1 + 1 = xS at *
  generalize w.heap.size + 1 + 1 = xR at *
  generalize w.heap.size + 1 = xC at *
  generalize hxA : w.heap.size = xA at *
  have HX : Hid (w.heap.size = xA) := hxA
  have HM : Hid (Mem w W pb xA xC xR xS xs xm #[.bool mu, .int .u8 ho, .int .u8 ki, .int .u8 f0, .int .u8 f1, .slice a len cap, .int .u8 qu] (.pointer none) (.pointer none) (.map none) #[.int .i8 0, .int .i8 0, .int .i8 0, .int .i8 0]) :=
    ⟨bA, bC, bR, bS, bs, bm, hp.later hpl hbel, hbel, hpl, hAC, hCR, hRS, hSs, hsm⟩
  have nA : ¬ xs = xA := by omega
  have nA' : ¬ xA = xs := by omega
  have nC : ¬ xs = xC := by omega
  have nC' : ¬ xC = xs := by omega
  have HI : Hid (f0 % 5 ≤ 4 ∧ f1 % 5 ≤ 4) := ⟨by omega, by omega⟩
  have lA := bA.lt
  have ls := bs.lt
  have lC := bC.lt
  clear hxA hp hbel bA bC bR bS bs bm
  -- s.first[0]
  have a0 := HM.out.bA.cell 0 (K pb 0) rfl
  have a1 := HM.out.bA.cell 1 (K pb 1) rfl
  have a2 := HM.out.bA.cell 2 (K pb 2) rfl
  have a3 := HM.out.bA.cell 3 (K pb 3) rfl
  have k3 := HM.out.bC.cell 3 (.int .u8 f0) rfl
  have s0 := HM.out.bs.cell 0 (.pointer none) rfl
  have g0 := HM.out.bs.frozen 0
  go_region_held3 (fun w' => w'.cell? ⟨xA, 0, none⟩ = some (K pb 0) ∧ w'.cell? ⟨xA, 1, none⟩ = some (K pb 1) ∧ w'.cell? ⟨xA, 2, none⟩ = some (K pb 2) ∧ w'.cell? ⟨xA, 3, none⟩ = some (K pb 3) ∧ w'.cell? ⟨xC, 3, none⟩ = some (.int .u8 f0))
    (go_keep)
    (first | (go_at_call 15; refine (idx_any f0 _ h0).mono ?_; rintro e w' ⟨rfl, rfl⟩) | (go_at_call 14; refine (pick_any pb (f0 % 5) _ HI.out.1).mono ?_; rintro e w' ⟨rfl, rfl⟩))
  have HM1 : Hid (Mem w (((W.setCell ⟨xs, 0, none⟩ (.pointer (pp pb (f0 % 5)))).alloc (.cells #[K pb 0, K pb 1, K pb 2, K pb 3] 105)).drew) pb xA xC xR xS xs xm _ _ _ _ _) := ((HM.out.set0 (.pointer (pp pb (f0 % 5)))).alloc _).drew
  clear HM a0 a1 a2 a3 k3 s0 g0 lA ls lC
  generalize (((W.setCell ⟨xs, 0, none⟩ (.pointer (pp pb (f0 % 5)))).alloc (.cells #[K pb 0, K pb 1, K pb 2, K pb 3] 105)).drew) = W1 at *
  -- s.first[1]
  have lA := HM1.out.bA.lt
  have ls := HM1.out.bs.lt
  have lC := HM1.out.bC.lt
  have a0 := HM1.out.bA.cell 0 (K pb 0) rfl
  have a1 := HM1.out.bA.cell 1 (K pb 1) rfl
  have a2 := HM1.out.bA.cell 2 (K pb 2) rfl
  have a3 := HM1.out.bA.cell 3 (K pb 3) rfl
  have k3 := HM1.out.bC.cell 4 (.int .u8 f1) rfl
  have s0 := HM1.out.bs.cell 1 (.pointer none) rfl
  have g0 := HM1.out.bs.frozen 1
  go_wp2
  go_region_held3 (fun w' => w'.cell? ⟨xA, 0, none⟩ = some (K pb 0) ∧ w'.cell? ⟨xA, 1, none⟩ = some (K pb 1) ∧ w'.cell? ⟨xA, 2, none⟩ = some (K pb 2) ∧ w'.cell? ⟨xA, 3, none⟩ = some (K pb 3) ∧ w'.cell? ⟨xC, 4, none⟩ = some (.int .u8 f1))
    (go_keep)
    (first | (go_at_call 15; refine (idx_any f1 _ h1).mono ?_; rintro e w' ⟨rfl, rfl⟩) | (go_at_call 14; refine (pick_any pb (f1 % 5) _ HI.out.2).mono ?_; rintro e w' ⟨rfl, rfl⟩))
  have HM2 : Hid (Mem w (((W1.setCell ⟨xs, 1, none⟩ (.pointer (pp pb (f1 % 5)))).alloc (.cells #[K pb 0, K pb 1, K pb 2, K pb 3] 105)).drew) pb xA xC xR xS xs xm _ _ _ _ _) := ((HM1.out.set1 (.pointer (pp pb (f1 % 5)))).alloc _).drew
  clear HM1 a0 a1 a2 a3 k3 s0 g0 lA ls lC
  generalize (((W1.setCell ⟨xs, 1, none⟩ (.pointer (pp pb (f1 % 5)))).alloc (.cells #[K pb 0, K pb 1, K pb 2, K pb 3] 105)).drew) = W2 at *
  have lC := HM2.out.bC.lt
  have ls := HM2.out.bs.lt
  have k5 := HM2.out.bC.cell 5 (.slice a len cap) rfl
  have s2 := HM2.out.bs.cell 2 (.map none) rfl
  have g2 := HM2.out.bs.frozen 2
  by_cases hpos : 0 < len
  · go_wp2
    have hr : ∃ r, r = W2.heap.size := ⟨_, rfl⟩
    obtain ⟨r, hr⟩ := hr
    have HR : Hid (xm < r) := by show xm < r; rw [hr]; exact HM2.out.lt
    have hmap : ((W2.setCell ⟨xs, 2, none⟩ (.map (some W2.heap.size))).alloc (.map #[] 0)).heap[r]? = some (.map (ents (K pb) []).toArray 0) := by
      rw [hr]
      have := heap_alloc_new (W2.setCell ⟨xs, 2, none⟩ (.map (some W2.heap.size))) (.map #[] 0)
      have e : (W2.setCell ⟨xs, 2, none⟩ (.map (some W2.heap.size))).heap.size = W2.heap.size := by simp
      rw [e] at this
      exact this
    have HM3 : Hid (Mem w ((W2.setCell ⟨xs, 2, none⟩ (.map (some W2.heap.size))).alloc (.map #[] 0)) pb xA xC xR xS xs xm _ _ _ _ _) := ((HM2.out.set2 (.map (some W2.heap.size))).alloc _)
    rw [← hr] at HM3 hmap ⊢
    clear HM2 lC ls k5 s2 g2 hr
    generalize ((W2.setCell ⟨xs, 2, none⟩ (.map (some r))).alloc (.map #[] 0)) = W3 at *
    have HMap : Hid (W3.heap[r]? = some (.map (ents (K pb) []).toArray 0)) := hmap
    clear hmap
    go_loopw [34] (fun i wr => ∃ k : Nat, k ≤ len ∧ i = .int .i64 k ∧ ∃ ps c, Mem w wr pb xA xC xR xS xs xm #[.bool mu, .int .u8 ho, .int .u8 ki, .int .u8 f0, .int .u8 f1, .slice a len cap, .int .u8 qu] (.pointer (pp pb (f0 % 5))) (.pointer (pp pb (f1 % 5))) (.map (some r)) (mmOf ps) ∧
        wr.heap[r]? = some (.map (ents (K pb) ps).toArray c) ∧ ∀ p ∈ ps, p.1 < 4 ∧ ∃ b, p.2.1 = .bool b)
      (fun i _ => len - (intOf i).toNat)
    case atStart => exact ⟨0, Nat.zero_le _, rfl, [], 0, HM3.out, HMap.out, fun p hp => by cases hp⟩
    case round =>
      clear HM3 HMap
      obtain ⟨k, hk, rfl, ps, c, hM, hmp, hps⟩ := hrel
      have HM : Hid (Mem w wr pb xA xC xR xS xs xm #[.bool mu, .int .u8 ho, .int .u8 ki, .int .u8 f0, .int .u8 f1, .slice a len cap, .int .u8 qu] (.pointer (pp pb (f0 % 5))) (.pointer (pp pb (f1 % 5))) (.map (some r)) (mmOf ps)) := hM
      have HMP : Hid (wr.heap[r]? = some (.map (ents (K pb) ps).toArray c)) := hmp
      have HPS : Hid (∀ p ∈ ps, p.1 < 4 ∧ ∃ b, p.2.1 = .bool b) := hps
      clear hM hmp hps
      by_cases hlt : k < len
      · obtain ⟨x, rfl, hxl, hx0⟩ := HRow.out k hlt
        have hx : wr.cell? (x.add k) = some (.int .u8 ((zs.getD k 0 : Nat) : Int)) := (HM.out.bel.cell hxl).trans hx0
        have hby := HBy.out k
        clear hx0
        generalize zs.getD k 0 = e at *
        have h3 : bits BinOp.and IntKind.u8 (e : Int) 3 = ((e % 4 : Nat) : Int) := and3 ⟨e, by omega⟩
        have hi4 : e % 4 < 4 := Nat.mod_lt _ (by decide)
        generalize e % 4 = i at *
        have hi4' : (i : Int) < 4 := by omega
        have ai : wr.cell? ⟨xA, i, none⟩ = some (K pb i) := HM.out.bA.cell i (K pb i) (by match i, hi4 with | 0, _ => rfl | 1, _ => rfl | 2, _ => rfl | 3, _ => rfl)
        have s2 := HM.out.bs.cell 2 (.map (some r)) rfl
        by_cases h128 : (bits BinOp.and IntKind.u8 (e : Int) 128 == 0) = true
        · have hmu := run_mapUpdate (P := Yba.prog) (W := wr.drew) Yba.underlying112 (keys_pool (W := wr.drew) HM.out.pool) r ps c HMP.out i hi4 (fun p hp => (HPS.out p hp).1) (.bool true)
          go_wp2
          go_region
          have HM4 : Hid (Mem w (ChangeMaps.setBlock wr.drew r (.map (ents (K pb) (upd i (.bool true) c ps)).toArray (clockAfter i c ps))) pb xA xC xR xS xs xm _ _ _ _ _) := HM.out.drew.setBlock r HR.out _
          have HMP4 : Hid ((ChangeMaps.setBlock wr.drew r (.map (ents (K pb) (upd i (.bool true) c ps)).toArray (clockAfter i c ps))).heap[r]? = some (.map (ents (K pb) (upd i (.bool true) c ps)).toArray (clockAfter i c ps))) := setBlock_same wr.drew r _ (block_lt HMP.out)
          clear hmu HM HMP ai s2 hx
          generalize (ChangeMaps.setBlock wr.drew r (.map (ents (K pb) (upd i (.bool true) c ps)).toArray (clockAfter i c ps))) = W4 at *
          have mi : W4.cell? ⟨xm, i, none⟩ = some (.int .i8 (mo i ps)) := HM4.out.bm.cell i _ (by match i, hi4 with | 0, _ => rfl | 1, _ => rfl | 2, _ => rfl | 3, _ => rfl)
          have fi : W4.frozen? ⟨xm, i, none⟩ = false := HM4.out.bm.frozen i
          have HM5 := hid (HM4.out.setm' i (.int .i8 1) (mmOf_upd i hi4 true c ps))
          have HMP5 : Hid ((W4.setCell ⟨xm, i, none⟩ (.int .i8 1)).heap[r]? = some (.map (ents (K pb) (upd i (.bool true) c ps)).toArray (clockAfter i c ps))) := (Below.heap_setCell _ _ _ _ (by have := HR.out; simp; omega)).trans HMP4.out
          clear HM4 HMP4
          go_wp2
          go_roundw
          case rel => exact ⟨k + 1, by omega, by go_num, upd i (.bool true) c ps, clockAfter i c ps, HM5.out, HMP5.out, upd_ok i hi4 true c ps HPS.out⟩
          case measure => simp [intOf]; omega
        · have h128' : (bits BinOp.and IntKind.u8 (e : Int) 128 == 0) = false := by simpa using h128
          clear h128
          have hmu := run_mapUpdate (P := Yba.prog) (W := wr.drew) Yba.underlying112 (keys_pool (W := wr.drew) HM.out.pool) r ps c HMP.out i hi4 (fun p hp => (HPS.out p hp).1) (.bool false)
          go_wp2
          go_region
          have HM4 : Hid (Mem w (ChangeMaps.setBlock wr.drew r (.map (ents (K pb) (upd i (.bool false) c ps)).toArray (clockAfter i c ps))) pb xA xC xR xS xs xm _ _ _ _ _) := HM.out.drew.setBlock r HR.out _
          have HMP4 : Hid ((ChangeMaps.setBlock wr.drew r (.map (ents (K pb) (upd i (.bool false) c ps)).toArray (clockAfter i c ps))).heap[r]? = some (.map (ents (K pb) (upd i (.bool false) c ps)).toArray (clockAfter i c ps))) := setBlock_same wr.drew r _ (block_lt HMP.out)
          clear hmu HM HMP ai s2 hx
          generalize (ChangeMaps.setBlock wr.drew r (.map (ents (K pb) (upd i (.bool false) c ps)).toArray (clockAfter i c ps))) = W4 at *
          have mi : W4.cell? ⟨xm, i, none⟩ = some (.int .i8 (mo i ps)) := HM4.out.bm.cell i _ (by match i, hi4 with | 0, _ => rfl | 1, _ => rfl | 2, _ => rfl | 3, _ => rfl)
          have fi : W4.frozen? ⟨xm, i, none⟩ = false := HM4.out.bm.frozen i
          have HM5 := hid (HM4.out.setm' i (.int .i8 2) (mmOf_upd i hi4 false c ps))
          have HMP5 : Hid ((W4.setCell ⟨xm, i, none⟩ (.int .i8 2)).heap[r]? = some (.map (ents (K pb) (upd i (.bool false) c ps)).toArray (clockAfter i c ps))) := (Below.heap_setCell _ _ _ _ (by have := HR.out; simp; omega)).trans HMP4.out
          clear HM4 HMP4
          go_wp2
          go_roundw
          case rel => exact ⟨k + 1, by omega, by go_num, upd i (.bool false) c ps, clockAfter i c ps, HM5.out, HMP5.out, upd_ok i hi4 false c ps HPS.out⟩
          case measure => simp [intOf]; omega
      · have s0 := HM.out.bs.cell 0 (.pointer (pp pb (f0 % 5))) rfl
        have s1 := HM.out.bs.cell 1 (.pointer (pp pb (f1 % 5))) rfl
        have s2 := HM.out.bs.cell 2 (.map (some r)) rfl
        have s3 := HM.out.bs.cell 3 (.int .i64 0) rfl
        have m0 := HM.out.bm.cell 0 (.int .i8 (mo 0 ps)) rfl
        have m1 := HM.out.bm.cell 1 (.int .i8 (mo 1 ps)) rfl
        have m2 := HM.out.bm.cell 2 (.int .i8 (mo 2 ps)) rfl
        have m3 := HM.out.bm.cell 3 (.int .i8 (mo 3 ps)) rfl
        have r0 := HM.out.bR.cell 0 (.pointer none) rfl
        have q0 := HM.out.bR.frozen 0
        have r1 := HM.out.bR.cell 1 (.pointer none) rfl
        have q1 := HM.out.bR.frozen 1
        have r2 := HM.out.bR.cell 2 (.map none) rfl
        have q2 := HM.out.bR.frozen 2
        have r3 := HM.out.bR.cell 3 (.int .i64 0) rfl
        have q3 := HM.out.bR.frozen 3
        have t0 := HM.out.bS.cell 0 (.int .i8 0) rfl
        have v0 := HM.out.bS.frozen 0
        have t1 := HM.out.bS.cell 1 (.int .i8 0) rfl
        have v1 := HM.out.bS.frozen 1
        have t2 := HM.out.bS.cell 2 (.int .i8 0) rfl
        have v2 := HM.out.bS.frozen 2
        have t3 := HM.out.bS.cell 3 (.int .i8 0) rfl
        have v3 := HM.out.bS.frozen 3
        have nRS : ¬ xR = xS := by omega
        have nRS' : ¬ xS = xR := by omega
        have ns1 : ¬ xs = xS := by omega
        have ns1' : ¬ xS = xs := by omega
        have ns2 : ¬ xs = xR := by omega
        have ns2' : ¬ xR = xs := by omega
        have nm1 : ¬ xm = xS := by omega
        have nm1' : ¬ xS = xm := by omega
        have nm2 : ¬ xm = xR := by omega
        have nm2' : ¬ xR = xm := by omega
        have HF := hid (fin_mem HM.out (.int .i8 (mo 0 ps)) (.int .i8 (mo 1 ps)) (.int .i8 (mo 2 ps)) (.int .i8 (mo 3 ps)) (r := (some r)) (ps := ps) ⟨HPS.out, .inr ⟨r, c, rfl, HMP.out⟩⟩ (fun mb e => by cases e; exact HR.out))
        go_wp2
        go_region
        clear s0 m0 r0 q0 t0 v0 s1 m1 r1 q1 t1 v1 s2 m2 r2 q2 t2 v2 s3 m3 r3 q3 t3 v3
        generalize World.drew (World.setCell _ ⟨xS, 3, none⟩ _) = W5 at *
        obtain ⟨bR5, bS5, hMap5, hPool5, hBel5⟩ := HF.out
        have y0 := bR5.cell 0 _ rfl
        have y1 := bR5.cell 1 _ rfl
        have y2 := bR5.cell 2 _ rfl
        have y3 := bR5.cell 3 _ rfl
        have z0 := bS5.cell 0 _ rfl
        have z1 := bS5.cell 1 _ rfl
        have z2 := bS5.cell 2 _ rfl
        have z3 := bS5.cell 3 _ rfl
        go_wp2
        exact bodyPost_ret (v := .tuple #[.agg #[.pointer (pp pb (f0 % 5)), .pointer (pp pb (f1 % 5)), .map (some r), .int .i64 0], .agg #[.int .i8 (mo 0 ps), .int .i8 (mo 1 ps), .int .i8 (mo 2 ps), .int .i8 (mo 3 ps)]]) (by simp [results, Yba.results16, go_sem, y0, y1, y2, y3, z0, z1, z2, z3]) rfl ⟨_, ps, rfl, hMap5, hPool5, by rw [HX.out]; exact hBel5⟩
  · have s0 := HM2.out.bs.cell 0 (.pointer (pp pb (f0 % 5))) rfl
    have s1 := HM2.out.bs.cell 1 (.pointer (pp pb (f1 % 5))) rfl
    have s2 := HM2.out.bs.cell 2 (.map none) rfl
    have s3 := HM2.out.bs.cell 3 (.int .i64 0) rfl
    have m0 := HM2.out.bm.cell 0 (.int .i8 (mo 0 [])) rfl
    have m1 := HM2.out.bm.cell 1 (.int .i8 (mo 1 [])) rfl
    have m2 := HM2.out.bm.cell 2 (.int .i8 (mo 2 [])) rfl
    have m3 := HM2.out.bm.cell 3 (.int .i8 (mo 3 [])) rfl
    have r0 := HM2.out.bR.cell 0 (.pointer none) rfl
    have q0 := HM2.out.bR.frozen 0
    have r1 := HM2.out.bR.cell 1 (.pointer none) rfl
    have q1 := HM2.out.bR.frozen 1
    have r2 := HM2.out.bR.cell 2 (.map none) rfl
    have q2 := HM2.out.bR.frozen 2
    have r3 := HM2.out.bR.cell 3 (.int .i64 0) rfl
    have q3 := HM2.out.bR.frozen 3
    have t0 := HM2.out.bS.cell 0 (.int .i8 0) rfl
    have v0 := HM2.out.bS.frozen 0
    have t1 := HM2.out.bS.cell 1 (.int .i8 0) rfl
    have v1 := HM2.out.bS.frozen 1
    have t2 := HM2.out.bS.cell 2 (.int .i8 0) rfl
    have v2 := HM2.out.bS.frozen 2
    have t3 := HM2.out.bS.cell 3 (.int .i8 0) rfl
    have v3 := HM2.out.bS.frozen 3
    have nRS : ¬ xR = xS := by omega
    have nRS' : ¬ xS = xR := by omega
    have ns1 : ¬ xs = xS := by omega
    have ns1' : ¬ xS = xs := by omega
    have ns2 : ¬ xs = xR := by omega
    have ns2' : ¬ xR = xs := by omega
    have nm1 : ¬ xm = xS := by omega
    have nm1' : ¬ xS = xm := by omega
    have nm2 : ¬ xm = xR := by omega
    have nm2' : ¬ xR = xm := by omega
    have HF := hid (fin_mem HM2.out (.int .i8 (mo 0 [])) (.int .i8 (mo 1 [])) (.int .i8 (mo 2 [])) (.int .i8 (mo 3 [])) (r := none) (ps := []) ⟨(fun p hp => by cases hp), .inl ⟨rfl, rfl⟩⟩ (fun mb e => by cases e))
    go_wp2
    go_region
    clear s0 m0 r0 q0 t0 v0 s1 m1 r1 q1 t1 v1 s2 m2 r2 q2 t2 v2 s3 m3 r3 q3 t3 v3
    generalize World.drew (World.setCell _ ⟨xS, 3, none⟩ _) = W5 at *
    obtain ⟨bR5, bS5, hMap5, hPool5, hBel5⟩ := HF.out
    have y0 := bR5.cell 0 _ rfl
    have y1 := bR5.cell 1 _ rfl
    have y2 := bR5.cell 2 _ rfl
    have y3 := bR5.cell 3 _ rfl
    have z0 := bS5.cell 0 _ rfl
    have z1 := bS5.cell 1 _ rfl
    have z2 := bS5.cell 2 _ rfl
    have z3 := bS5.cell 3 _ rfl
    go_wp2
    exact bodyPost_ret (v := .tuple #[.agg #[.pointer (pp pb (f0 % 5)), .pointer (pp pb (f1 % 5)), .map none, .int .i64 0], .agg #[.int .i8 (mo 0 []), .int .i8 (mo 1 []), .int .i8 (mo 2 []), .int .i8 (mo 3 [])]]) (by simp [results, Yba.results16, go_sem, y0, y1, y2, y3, z0, z1, z2, z3]) rfl ⟨_, [], rfl, hMap5, hPool5, by rw [HX.out]; exact hBel5⟩
end Go.Proofs.Ybulkboaa.CBuild
