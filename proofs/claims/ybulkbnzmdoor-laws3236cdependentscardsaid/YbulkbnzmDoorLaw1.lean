import Derived.Test.YbulkbnzmDoorDep5
import Derived.Deep.CutRange
namespace Go.Proofs.YbulkbnzmDoor.Law1
open Go.RowKit MapLaw Base Net Net2 Net3 Net4 Plain Mem Dep1 Ins Dep2 Rem Dep3 Dep4 Dep5
set_option linter.unusedVariables false
set_option maxRecDepth 100000

def lo4 (x : Int) : Int := if x = 0 then 0xffff0a000000 else 0xffff0a010000
theorem addrFrom4_x (x : Int) (hx : x = 0 ∨ x = 1) (a4 a6 : Addr) (w : World) (hg : Gl w a4 a6) :
    Calls Ybad.prog 5 #[.agg #[.int .u8 10, .int .u8 x, .int .u8 0, .int .u8 0]] w fun e w' => e = .returned (ad 0 (lo4 x) a4) ∧ Below w.heap.size w w' :=
  addrFrom4_any x (lo4 x) (by rcases hx with rfl | rfl <;> simp [lo4]) a4 a6 w hg
theorem prefixFrom_z (hi lo n : Int) (hn : n = 8 ∨ n = 16) (z a4 a6 : Addr) (hz : z = a4 ∨ z = a6) (w : World) (hg : Gl w a4 a6) :
    Calls Ybad.prog 4 #[ad hi lo z, .int .i64 n] w fun e w' => e = .returned (.agg #[.int .u64 hi, .int .u64 lo, .pointer (some z), .int .u8 (n + 1)]) ∧ Below w.heap.size w w' := by
  rcases hz with rfl | rfl
  · exact prefixFrom_a4 hi lo n hn z a6 w hg
  · exact prefixFrom_a6 hi lo n hn a4 z w hg

/-- the entries lie in the block b -/
def LS (w : World) (a4 a6 : Addr) (W : World) : Prop := Gl W a4 a6 ∧ Blk W w.heap.size esC 34 ∧ Below w.heap.size w W ∧ w.heap.size < W.heap.size
theorem LS.later {w W W' : World} {a4 a6 : Addr} (h : LS w a4 a6 W) (hb : Below W.heap.size W W') : LS w a4 a6 W' :=
  ⟨Gl.below h.1 hb, h.2.1.later h.2.2.2 hb, h.2.2.1.trans (hb.mono (Nat.le_of_lt h.2.2.2)), Nat.lt_of_lt_of_le h.2.2.2 hb.size⟩

theorem LS.gl {w W : World} {a4 a6 : Addr} (h : LS w a4 a6 W) : Gl W a4 a6 := h.1

theorem LS.far {w W W' : World} {a4 a6 : Addr} (h : LS w a4 a6 W) (hw : 3 ≤ w.heap.size ∧ a4.block < w.heap.size ∧ a6.block < w.heap.size) (hb : Below (w.heap.size + 1) W W') : LS w a4 a6 W' :=
  ⟨h.1.later (by omega) (by omega) (by omega) hb, h.2.1.later (by omega) hb, h.2.2.1.trans (hb.mono (by omega)), Nat.lt_of_lt_of_le h.2.2.2 hb.size⟩

/-- the resolutions while they are laid -/
def R0 (cs : Array Value) (n : Nat) : Prop := cs.size = 57 ∧ ∀ j, j < 3 → cs[j * 19 + 10]? = some (.pointer none) ∧ cs[j * 19 + 14]? = some (.int .i64 (if j < n then -1 else 0))
theorem R0.start : R0 (zc 55) 0 := by
  refine ⟨by kernel_rfl, fun j hj => ?_⟩
  match j, hj with
  | 0, _ => exact ⟨by kernel_rfl, by kernel_rfl⟩
  | 1, _ => exact ⟨by kernel_rfl, by kernel_rfl⟩
  | 2, _ => exact ⟨by kernel_rfl, by kernel_rfl⟩
theorem R0.next {cs : Array Value} {n : Nat} (h : R0 cs n) (hn : n < 3) : R0 (cs.setIfInBounds (n * 19 + 14) (.int .i64 (-1))) (n + 1) := by
  have h57 := h.1
  refine ⟨by simpa using h.1, fun j hj => ?_⟩
  rw [Array.getElem?_setIfInBounds_ne (i := n * 19 + 14) (j := j * 19 + 10) (by omega)]
  refine ⟨(h.2 j hj).1, ?_⟩
  by_cases e : j = n
  · subst e
    rw [Array.getElem?_setIfInBounds_self_of_lt (by omega), if_pos (by omega)]
  · rw [Array.getElem?_setIfInBounds_ne (by omega), (h.2 j hj).2]
    by_cases hl : j < n
    · rw [if_pos hl, if_pos (by omega)]
    · rw [if_neg hl, if_neg (by omega)]
theorem R0.fin {cs : Array Value} (h : R0 cs 3) (eb : Nat) : Res cs eb (fun _ => 4) (fun _ => -1) :=
  ⟨h.1, fun i hi => ⟨by rw [vp_none]; exact (h.2 i hi).1, by rw [(h.2 i hi).2, if_pos hi]⟩⟩
theorem keysC (a4 a6 : Addr) : (#[.int .u64 0, .int .u64 (lo4 0), .pointer (some a4), .int .u8 9, .int .u64 0, .int .u64 (lo4 1), .pointer (some a4), .int .u8 17, .int .u64 2306124484190404608, .int .u64 0, .pointer (some a6), .int .u8 17] : Array Value) = kC a4 a6 := by
  simp [kC, lo4, Hi, Lo, Bt, Pt]

/-- what holds in the script's loop -/
def LI (w : World) (a4 a6 : Addr) (eb kb sb mb qb r B : Nat) (wz : World) : Prop :=
  ∃ m pl L, St wz a4 a6 eb sb qb r B m pl L ∧ Abs m pl L ∧ Blk wz kb (kC a4 a6) 48 ∧ Blk wz mb (mC m) 56 ∧ Below eb w wz

theorem LI.start {w wr : World} {a4 a6 : Addr} {eb kb sb : Nat} {cs : Array Value} (heb : w.heap.size = eb) (hw : 3 ≤ eb ∧ a4.block < eb ∧ a6.block < eb) (h1 : LS w a4 a6 wr) (hkb : Blk wr kb (kC a4 a6) 48) (hsb : Blk wr sb cs 55) (hr : R0 cs 3) (o1 : eb < kb) (o2 : kb < sb) :
    LI w a4 a6 eb kb sb wr.heap.size (wr.heap.size + 1 + 1) (wr.heap.size + 1) (wr.heap.size + 1 + 1 + 1) (((wr.alloc (.cells #[.int .i64 (-1), .int .i64 (-1), .int .i64 (-1)] 56)).alloc (.map #[] 0)).alloc (.cells ((zc 96).setIfInBounds 164 (.map (some (wr.heap.size + 1)))) 96)) ∧
    Ord a4 a6 eb sb (wr.heap.size + 1 + 1) (wr.heap.size + 1) (wr.heap.size + 1 + 1 + 1) := by
  have ls := hsb.lt
  have hb : Below wr.heap.size wr (((wr.alloc (.cells #[.int .i64 (-1), .int .i64 (-1), .int .i64 (-1)] 56)).alloc (.map #[] 0)).alloc (.cells ((zc 96).setIfInBounds 164 (.map (some (wr.heap.size + 1)))) 96)) := (((Below.refl _ _).alloc (Nat.le_refl _) _).alloc (by simp) _).alloc (by simp; omega) _
  have hL := h1.later hb
  have hmap : (((wr.alloc (.cells #[.int .i64 (-1), .int .i64 (-1), .int .i64 (-1)] 56)).alloc (.map #[] 0)).alloc (.cells ((zc 96).setIfInBounds 164 (.map (some (wr.heap.size + 1)))) 96)).heap[wr.heap.size + 1]? = some (.map #[] 0) := by
    rw [Below.heap_alloc _ _ _ (by simp)]
    have := heap_alloc_new (wr.alloc (.cells #[.int .i64 (-1), .int .i64 (-1), .int .i64 (-1)] 56)) (.map #[] 0)
    simpa using this
  have hqb : Blk (((wr.alloc (.cells #[.int .i64 (-1), .int .i64 (-1), .int .i64 (-1)] 56)).alloc (.map #[] 0)).alloc (.cells ((zc 96).setIfInBounds 164 (.map (some (wr.heap.size + 1)))) 96)) (wr.heap.size + 1 + 1) ((zc 96).setIfInBounds 164 (.map (some (wr.heap.size + 1)))) 96 := Blk.new' _ _ _ _ (by simp)
  have hs96 : (zc 96).size = 171 := by kernel_rfl
  refine ⟨⟨fun _ => 4, fun _ => -1, fun _ => [], ⟨hL.1, by rw [← heb]; exact hL.2.1, ⟨_, hqb, Array.getElem?_setIfInBounds_self_of_lt (by omega)⟩, ⟨cs, hsb.later ls hb, hr.fin eb⟩, ⟨[], 0, hmap, Good.start, ?_, ?_⟩, by simp⟩, Abs.start, hkb.later (by omega) hb, ?_, by rw [← heb]; exact hL.2.2.1⟩, ⟨hw.1, hw.2.1, hw.2.2, by omega, by omega, by omega, by omega⟩⟩
  · intro g hg
    exact ⟨⟨rfl, .inl ⟨rfl, rfl⟩⟩, by simp [lookE]⟩
  · intro g g' v v' _ h _
    simp [lookE] at h
  · exact ((Blk.new wr #[.int .i64 (-1), .int .i64 (-1), .int .i64 (-1)] 56).alloc _).alloc _

/-- a store into a block that the state does not speak of -/
theorem St_other {W : World} {a4 a6 : Addr} {eb sb qb r B mb : Nat} {m : Nat → Nat} {pl : Nat → Int} {L : Nat → List Nat} (h : St W a4 a6 eb sb qb r B m pl L) (o : Ord a4 a6 eb sb qb r B) (h1 : sb < mb) (h2 : mb < r) (j : Nat) (v : Value) :
    St (W.setCell ⟨mb, j, none⟩ v) a4 a6 eb sb qb r B m pl L := by
  have e1 := o.es; have e2 := o.sr; have e3 := o.rq; have e4 := o.qB; have e5 := h.bB; have e6 := o.b3; have l4 := o.l4; have l6 := o.l6
  have far : ∀ b, b ≠ mb → (W.setCell ⟨mb, j, none⟩ v).heap[b]? = W.heap[b]? := fun b hb => Below.heap_setCell W ⟨mb, j, none⟩ v b hb
  obtain ⟨c1, g1, g2⟩ := h.rib
  obtain ⟨c2, g3, g4⟩ := h.rs
  obtain ⟨ps, c, g5, g6, g7⟩ := h.mp
  obtain ⟨cs4, t4, h4⟩ := h.gl.h4
  obtain ⟨cs6, t6, h6⟩ := h.gl.h6
  exact ⟨⟨(World.cell?_of_block (far 0 (by omega))).trans h.gl.c0, (World.cell?_of_block (far 1 (by omega))).trans h.gl.c1, (World.cell?_of_block (far 2 (by omega))).trans h.gl.c2, ⟨cs4, t4, (far _ (by omega)).trans h4⟩, ⟨cs6, t6, (far _ (by omega)).trans h6⟩, h.gl.ne⟩,
    (far _ (by omega)).trans h.es, ⟨c1, (far _ (by omega)).trans g1, g2⟩, ⟨c2, (far _ (by omega)).trans g3, g4⟩, ⟨ps, c, (far _ (by omega)).trans g5, g6, g7.later fun b hb _ => far b (by omega)⟩, by simpa using h.bB⟩

/-- the model's new number -/
theorem mC_set (m : Nat → Nat) {i k : Nat} (hi : i < 3) : (mC m).setIfInBounds i (.int .i64 (if k < 4 then (k : Int) else -1)) = mC (up m i k) := by
  match i, hi with
  | 0, _ => simp [mC, mv, up]
  | 1, _ => simp [mC, mv, up]
  | 2, _ => simp [mC, mv, up]

/-- one step of the script, behind depend and the model's store -/
theorem step_mem {w W w' : World} {a4 a6 : Addr} {eb kb sb mb qb r B : Nat} {m : Nat → Nat} {pl' : Nat → Int} {L' : Nat → List Nat} {i k : Nat} (hi : i < 3) (o : Ord a4 a6 eb sb qb r B) (ok : eb < kb ∧ kb < sb) (h1 : sb < mb) (h2 : mb < r)
    (hst : St w' a4 a6 eb sb qb r B (up m i k) pl' L') (hf : Frm B sb r W w') (hkb : Blk W kb (kC a4 a6) 48) (hmb : Blk W mb (mC m) 56) (hbel : Below eb w W) :
    (Blk w' mb (mC m) 56) ∧
    (St (w'.setCell ⟨mb, i, none⟩ (.int .i64 (if k < 4 then (k : Int) else -1))) a4 a6 eb sb qb r B (up m i k) pl' L' ∧ Blk (w'.setCell ⟨mb, i, none⟩ (.int .i64 (if k < 4 then (k : Int) else -1))) kb (kC a4 a6) 48 ∧ Blk (w'.setCell ⟨mb, i, none⟩ (.int .i64 (if k < 4 then (k : Int) else -1))) mb (mC (up m i k)) 56 ∧ Below eb w (w'.setCell ⟨mb, i, none⟩ (.int .i64 (if k < 4 then (k : Int) else -1)))) := by
  have e1 := o.es; have e2 := o.sr; have e3 := o.rq; have e4 := o.qB
  have hk' : Blk w' kb (kC a4 a6) 48 := (hf.block kb (by omega) (by omega) (by omega)).trans hkb
  have hm' : Blk w' mb (mC m) 56 := (hf.block mb (by omega) (by omega) (by omega)).trans hmb
  refine ⟨hm', St_other hst o h1 h2 _ _, hk'.other (by simp; omega) _, by rw [← mC_set m hi]; exact hm'.set _ _, ?_⟩
  have hb : Below eb w w' := hbel.trans ⟨hf.os, hf.tape, hf.output, hf.size, fun b hb => hf.block b (by omega) (by omega) (by omega)⟩
  exact hb.setCell (by simp; omega) _

set_option maxHeartbeats 6400000 in
theorem law_any (a : Option Addr) (len cap : Nat) (hlen : len ≤ 1024) (a4 a6 : Addr) (w : World) (hg : Gl w a4 a6) (us vs : List Nat) (hrow : ∀ i, i < len → ∃ x, a = some x ∧ w.cell? (x.add (i * 2)) = some (.int .u8 ((us.getD i 0 : Nat) : Int)) ∧ w.cell? ((x.add (i * 2)).add 1) = some (.int .u8 ((vs.getD i 0 : Nat) : Int))) (hby : ∀ i, us.getD i 0 ≤ 255 ∧ vs.getD i 0 ≤ 255) :
    Calls Ybad.prog 3 #[.slice a len cap] w fun e w' => e = .returned (.bool true) ∧ Below w.heap.size w w' := by
  have HW : Hid (3 ≤ w.heap.size ∧ a4.block < w.heap.size ∧ a6.block < w.heap.size) := ⟨Gl.three hg, hg.lt4, hg.lt6⟩
  have HRow : Hid (∀ i, i < len → ∃ x, a = some x ∧ ((x.add (i * 2)).block < w.heap.size ∧ w.cell? (x.add (i * 2)) = some (.int .u8 ((us.getD i 0 : Nat) : Int))) ∧ ((x.add (i * 2)).add 1).block < w.heap.size ∧ w.cell? ((x.add (i * 2)).add 1) = some (.int .u8 ((vs.getD i 0 : Nat) : Int))) := fun i hi => by
    obtain ⟨x, hx, h1, h2⟩ := hrow i hi
    exact ⟨x, hx, ⟨World.block_lt_of_cell? w _ h1, h1⟩, World.block_lt_of_cell? w _ h2, h2⟩
  have HBy : Hid (∀ i, us.getD i 0 ≤ 255 ∧ vs.getD i 0 ≤ 255) := hby
  clear hrow hby
  have hz34 := zero34
  have hz55 := zero55
  have hz96 := zero96
  have hB0 : Blk (w.alloc (.cells (zc 34) 34)) w.heap.size (zc 34) 34 := Blk.new w _ _
  have hLS : LS w a4 a6 (((((((((((((((w.alloc (.cells (zc 34) 34)).setCell ⟨w.heap.size, 0, none⟩ (.int .u8 10)).setCell ⟨w.heap.size, 34, none⟩ (.int .u8 8)).setCell ⟨w.heap.size, 37, none⟩ (.int .u8 8)).setCell ⟨w.heap.size, 38, none⟩ (.int .u8 10)).setCell ⟨w.heap.size, 72, none⟩ (.int .u8 8)).setCell ⟨w.heap.size, 75, none⟩ (.int .u8 24)).setCell ⟨w.heap.size, 71, none⟩ (.int .u32 1)).setCell ⟨w.heap.size, 76, none⟩ (.int .u8 10)).setCell ⟨w.heap.size, 77, none⟩ (.int .u8 1)).setCell ⟨w.heap.size, 110, none⟩ (.int .u8 16)).setCell ⟨w.heap.size, 113, none⟩ (.int .u8 8)).setCell ⟨w.heap.size, 114, none⟩ (.int .u8 32)).setCell ⟨w.heap.size, 115, none⟩ (.int .u8 1)).setCell ⟨w.heap.size, 148, none⟩ (.int .u8 16)) := by
    have hb := ((((((((((((((((Below.refl w.heap.size w).alloc (Nat.le_refl _) (.cells (zc 34) 34)).setCell (p := ⟨w.heap.size, 0, none⟩) (Nat.le_refl _) (.int .u8 10)).setCell (p := ⟨w.heap.size, 34, none⟩) (Nat.le_refl _) (.int .u8 8)).setCell (p := ⟨w.heap.size, 37, none⟩) (Nat.le_refl _) (.int .u8 8)).setCell (p := ⟨w.heap.size, 38, none⟩) (Nat.le_refl _) (.int .u8 10)).setCell (p := ⟨w.heap.size, 72, none⟩) (Nat.le_refl _) (.int .u8 8)).setCell (p := ⟨w.heap.size, 75, none⟩) (Nat.le_refl _) (.int .u8 24)).setCell (p := ⟨w.heap.size, 71, none⟩) (Nat.le_refl _) (.int .u32 1)).setCell (p := ⟨w.heap.size, 76, none⟩) (Nat.le_refl _) (.int .u8 10)).setCell (p := ⟨w.heap.size, 77, none⟩) (Nat.le_refl _) (.int .u8 1)).setCell (p := ⟨w.heap.size, 110, none⟩) (Nat.le_refl _) (.int .u8 16)).setCell (p := ⟨w.heap.size, 113, none⟩) (Nat.le_refl _) (.int .u8 8)).setCell (p := ⟨w.heap.size, 114, none⟩) (Nat.le_refl _) (.int .u8 32)).setCell (p := ⟨w.heap.size, 115, none⟩) (Nat.le_refl _) (.int .u8 1)).setCell (p := ⟨w.heap.size, 148, none⟩) (Nat.le_refl _) (.int .u8 16))
    refine ⟨Gl.below hg hb, ?_, hb, by simp⟩
    exact (((((((((((((hB0.set 0 _).set 34 _).set 37 _).set 38 _).set 72 _).set 75 _).set 71 _).set 76 _).set 77 _).set 110 _).set 113 _).set 114 _).set 115 _).set 148 _
  have HLS : Hid _ := hLS
  clear hLS
  have q0 := hB0.cell 0 (.int .u8 0) (by kernel_rfl)
  have q1 := hB0.cell 34 (.int .u8 0) (by kernel_rfl)
  have q2 := hB0.cell 37 (.int .u8 0) (by kernel_rfl)
  have q3 := hB0.cell 38 (.int .u8 0) (by kernel_rfl)
  have q4 := hB0.cell 72 (.int .u8 0) (by kernel_rfl)
  have q5 := hB0.cell 75 (.int .u8 0) (by kernel_rfl)
  have q6 := hB0.cell 71 (.int .u32 0) (by kernel_rfl)
  have q7 := hB0.cell 76 (.int .u8 0) (by kernel_rfl)
  have q8 := hB0.cell 77 (.int .u8 0) (by kernel_rfl)
  have q9 := hB0.cell 110 (.int .u8 0) (by kernel_rfl)
  have q10 := hB0.cell 113 (.int .u8 0) (by kernel_rfl)
  have q11 := hB0.cell 114 (.int .u8 0) (by kernel_rfl)
  have q12 := hB0.cell 115 (.int .u8 0) (by kernel_rfl)
  have q13 := hB0.cell 148 (.int .u8 0) (by kernel_rfl)
  have p0 := hB0.frozen 0
  have p1 := hB0.frozen 34
  have p2 := hB0.frozen 37
  have p3 := hB0.frozen 38
  have p4 := hB0.frozen 72
  have p5 := hB0.frozen 75
  have p6 := hB0.frozen 71
  have p7 := hB0.frozen 76
  have p8 := hB0.frozen 77
  have p9 := hB0.frozen 110
  have p10 := hB0.frozen 113
  have p11 := hB0.frozen 114
  have p12 := hB0.frozen 115
  have p13 := hB0.frozen 148
  have HE : Hid (w.heap.size = w.heap.size) := rfl
  clear hg hB0
  obtain ⟨W0, hW0⟩ : ∃ W0, W0 = w.alloc (.cells (zc 34) 34) := ⟨_, rfl⟩
  rw [← hW0] at HLS q0 q1 q2 q3 q4 q5 q6 q7 q8 q9 q10 q11 q12 q13 p0 p1 p2 p3 p4 p5 p6 p7 p8 p9 p10 p11 p12 p13
  go_enter Ybad.func3, Ybad.ntmps3
  go_upto_region 4 with fail
  rw [← hW0]
  clear hW0
  go_upto_region 18 with fail
  obtain ⟨W1, hW1⟩ : ∃ W1, W1 = ((((((((((((((W0.setCell ⟨w.heap.size, 0, none⟩ (.int .u8 10)).setCell ⟨w.heap.size, 34, none⟩ (.int .u8 8)).setCell ⟨w.heap.size, 37, none⟩ (.int .u8 8)).setCell ⟨w.heap.size, 38, none⟩ (.int .u8 10)).setCell ⟨w.heap.size, 72, none⟩ (.int .u8 8)).setCell ⟨w.heap.size, 75, none⟩ (.int .u8 24)).setCell ⟨w.heap.size, 71, none⟩ (.int .u32 1)).setCell ⟨w.heap.size, 76, none⟩ (.int .u8 10)).setCell ⟨w.heap.size, 77, none⟩ (.int .u8 1)).setCell ⟨w.heap.size, 110, none⟩ (.int .u8 16)).setCell ⟨w.heap.size, 113, none⟩ (.int .u8 8)).setCell ⟨w.heap.size, 114, none⟩ (.int .u8 32)).setCell ⟨w.heap.size, 115, none⟩ (.int .u8 1)).setCell ⟨w.heap.size, 148, none⟩ (.int .u8 16)) := ⟨_, rfl⟩
  rw [← hW1] at HLS ⊢
  clear hW1 q0 q1 q2 q3 q4 q5 q6 q7 q8 q9 q10 q11 q12 q13 p0 p1 p2 p3 p4 p5 p6 p7 p8 p9 p10 p11 p12 p13 hz34
  have HL : LS w a4 a6 W1 := HLS.out
  clear HLS HE
  generalize hwh : w.heap.size = eb at *
  have HEb : Hid (w.heap.size = eb) := hwh
  clear hwh
  go_wp2_with (first
    | (go_at_call 5; refine (addrFrom4_x _ (by simp) a4 a6 _ (LS.gl (w := w) (by assumption))).mono ?_; rintro e wn ⟨rfl, hb⟩; have hLn := LS.later (w := w) (a4 := a4) (a6 := a6) (by assumption) hb; clear hb)
    | (go_at_call 6; refine (addrFrom16_any a4 a6 _ (LS.gl (w := w) (by assumption))).mono ?_; rintro e wn ⟨rfl, hb⟩; have hLn := LS.later (w := w) (a4 := a4) (a6 := a6) (by assumption) hb; clear hb)
    | (go_at_call 4; refine (prefixFrom_z _ _ _ (by simp) _ a4 a6 (by simp) _ (LS.gl (w := w) (by assumption))).mono ?_; rintro e wn ⟨rfl, hb⟩; have hLn := LS.later (w := w) (a4 := a4) (a6 := a6) (by assumption) hb; clear hb))
  rw [keysC a4 a6]
  have T := Blk.two wn (kC a4 a6) (zc 55) 48 55
  have hL2 := LS.later (w := w) (W := wn) (a4 := a4) (a6 := a6) (by assumption) T.2.2
  have hkl : eb < wn.heap.size := by have hx : LS w a4 a6 wn := (by assumption); rw [← HEb.out]; exact hx.2.2.2
  have HL2 : Hid (LS w a4 a6 ((wn.alloc (.cells (kC a4 a6) 48)).alloc (.cells (zc 55) 55)) ∧ Blk ((wn.alloc (.cells (kC a4 a6) 48)).alloc (.cells (zc 55) 55)) wn.heap.size (kC a4 a6) 48 ∧ Blk ((wn.alloc (.cells (kC a4 a6) 48)).alloc (.cells (zc 55) 55)) (wn.heap.size + 1) (zc 55) 55) := ⟨hL2, T.1, T.2.1⟩
  clear T hL2 hz55
  have HKb : Hid (eb < wn.heap.size ∧ wn.heap.size < wn.heap.size + 1) := ⟨hkl, by omega⟩
  clear hkl
  generalize ((wn.alloc (.cells (kC a4 a6) 48)).alloc (.cells (zc 55) 55)) = W2 at *
  generalize wn.heap.size + 1 = sb at *
  generalize wn.heap.size = kb at *
  clear HL
  go_loopw [6] (fun iv wz => ∃ I : Nat, I ≤ 3 ∧ iv = .int .i64 I ∧ LS w a4 a6 wz ∧ Blk wz kb (kC a4 a6) 48 ∧ ∃ cs, Blk wz sb cs 55 ∧ R0 cs I) (fun iv _ => 3 - (intOf iv).toNat)
  case atStart => exact ⟨0, by omega, rfl, HL2.out.1, HL2.out.2.1, _, HL2.out.2.2, R0.start⟩
  case round =>
    clear HL2
    obtain ⟨I, hI, rfl, hls, hkb, cs, hsb, hr0⟩ := hrel
    have HL3 : Hid (LS w a4 a6 wr ∧ Blk wr kb (kC a4 a6) 48 ∧ Blk wr sb cs 55 ∧ R0 cs I) := ⟨hls, hkb, hsb, hr0⟩
    clear hls hkb hr0
    by_cases hI3 : I < 3
    · have hI3' : (I : Int) < 3 := by omega
      have c14 := hsb.cell (I * 19 + 14) _ (HL3.out.2.2.2.2 I hI3).2
      have f14 := hsb.frozen (I * 19 + 14)
      have o1 := HKb.out.1
      have o2 := HKb.out.2
      clear hsb
      go_wp2
      go_roundw
      case rel =>
        have R : ∃ I' : Nat, I' ≤ 3 ∧ (Value.int .i64 ((I : Int) + 1)) = .int .i64 I' ∧ LS w a4 a6 (wr.setCell ⟨sb, I * 19 + 14, none⟩ (.int .i64 (-1))) ∧ Blk (wr.setCell ⟨sb, I * 19 + 14, none⟩ (.int .i64 (-1))) kb (kC a4 a6) 48 ∧ ∃ cs, Blk (wr.setCell ⟨sb, I * 19 + 14, none⟩ (.int .i64 (-1))) sb cs 55 ∧ R0 cs I' :=
          ⟨I + 1, by omega, by go_num, HL3.out.1.far (by rw [HEb.out]; exact HW.out) ((Below.refl _ _).setCell (by simp; have := HEb.out; omega) _), HL3.out.2.1.other (by simp; omega) _, _, HL3.out.2.2.1.set _ _, HL3.out.2.2.2.next hI3⟩
        first | exact R | ((repeat apply Exists.intro); exact ⟨R, rfl⟩)
      case measure => simp [intOf]; omega
    · obtain rfl : I = 3 := by omega
      clear hsb
      have hmm := @run_makeMap Ybad.prog
      go_wp2
      obtain ⟨hli, hord⟩ := LI.start HEb.out HW.out HL3.out.1 HL3.out.2.1 HL3.out.2.2.1 HL3.out.2.2.2 HKb.out.1 HKb.out.2
      have HLI : Hid _ := hli
      have HOrd : Hid _ := hord
      have HMb : Hid (kb < wr.heap.size ∧ sb < wr.heap.size) := ⟨HL3.out.2.1.lt, HL3.out.2.2.1.lt⟩
      clear hli hord hz96 HL3 hmm
      generalize (World.alloc _ (.cells ((zc 96).setIfInBounds 164 (.map (some (wr.heap.size + 1)))) 96)) = V3 at *
      obtain ⟨B, hB⟩ : ∃ B, B = wr.heap.size + 1 + 1 + 1 := ⟨_, rfl⟩
      obtain ⟨qb, hqb⟩ : ∃ qb, qb = wr.heap.size + 1 + 1 := ⟨_, rfl⟩
      obtain ⟨r, hr⟩ : ∃ r, r = wr.heap.size + 1 := ⟨_, rfl⟩
      rw [← hB, ← hqb, ← hr] at HLI HOrd
      rw [← hqb]
      have HMr : Hid (wr.heap.size < r) := by show wr.heap.size < r; omega
      clear hB hqb hr
      generalize wr.heap.size = mb at *
      go_loopw [74] (fun iv wz => ∃ k : Nat, k ≤ len ∧ iv = .int .i64 k ∧ LI w a4 a6 eb kb sb mb qb r B wz) (fun iv _ => len - (intOf iv).toNat)
      case atStart => exact ⟨0, Nat.zero_le _, rfl, HLI.out⟩
      case round =>
        clear HLI
        obtain ⟨k, hk, rfl, m, pl, L, hst, hab, hkb, hmb, hbel⟩ := hrel
        have HS : Hid (St wr a4 a6 eb sb qb r B m pl L ∧ Abs m pl L ∧ Blk wr kb (kC a4 a6) 48 ∧ Blk wr mb (mC m) 56 ∧ Below eb w wr) := ⟨hst, hab, hkb, hmb, hbel⟩
        clear hst hab hkb hmb hbel
        by_cases hlt : k < len
        · have hlt' : (k : Int) < (len : Int) := by omega
          obtain ⟨x, rfl, ⟨hx1, hx2⟩, hx3, hx4⟩ := HRow.out k hlt
          have y1 := (HS.out.2.2.2.2.cell hx1).trans hx2
          have y2 : wr.cell? ⟨(x.add (k * 2)).block, (x.add (k * 2)).off + 1, none⟩ = some (.int .u8 ((vs.getD k 0 : Nat) : Int)) := (HS.out.2.2.2.2.cell hx3).trans hx4
          have by1 := (HBy.out k).1
          have by2 := (HBy.out k).2
          clear hx2 hx4
          generalize us.getD k 0 = u at *
          generalize vs.getD k 0 = v at *
          go_upto_region 32 with fail
          have e3 : ((u : Int) % 3) = ((u % 3 : Nat) : Int) := by omega
          have e5 : ((v : Int) % 5) = ((v % 5 : Nat) : Int) := by omega
          rw [e3, e5]
          have hi : u % 3 < 3 := Nat.mod_lt _ (by omega)
          have hq : v % 5 < 5 := Nat.mod_lt _ (by omega)
          clear e3 e5
          have HS6 : Hid (St (wr.alloc (.cells #[.int .u8 (u : Int), .int .u8 (v : Int)] 98)) a4 a6 eb sb qb r B m pl L ∧ Abs m pl L ∧ Blk (wr.alloc (.cells #[.int .u8 (u : Int), .int .u8 (v : Int)] 98)) kb (kC a4 a6) 48 ∧ Blk (wr.alloc (.cells #[.int .u8 (u : Int), .int .u8 (v : Int)] 98)) mb (mC m) 56 ∧ Below eb w (wr.alloc (.cells #[.int .u8 (u : Int), .int .u8 (v : Int)] 98))) :=
            ⟨HS.out.1.later HOrd.out ((Below.refl _ _).alloc (Nat.le_refl _) _), HS.out.2.1, HS.out.2.2.1.alloc _, HS.out.2.2.2.1.alloc _, HS.out.2.2.2.2.alloc (by have h1 := HOrd.out.es; have h2 := HOrd.out.sr; have h3 := HOrd.out.rq; have h4 := HOrd.out.qB; have h5 := HS.out.1.bB; omega) _⟩
          clear HS y1 y2
          generalize (wr.alloc (.cells #[.int .u8 (u : Int), .int .u8 (v : Int)] 98)) = W6 at *
          generalize u % 3 = i at *
          generalize v % 5 = q at *
          have hi' : (i : Int) < 3 := by omega
          by_cases hq4 : q < 4
          · have hq4' : (q : Int) < 4 := by omega
            have hdep := dep_any HS6.out.1 HS6.out.2.1 HOrd.out hi (k := q) (by omega)
            rw [vp_some hq4] at hdep
            have HD : Hid _ := hdep
            clear hdep
            go_upto_region 36 with fail
            refine Calls.mono HD.out ?_
            rintro e w' hpost
            unfold Post at hpost
            obtain ⟨rfl, ⟨pl', L', hst, hab⟩, hfrm⟩ := hpost
            obtain ⟨hm8, hS8⟩ := step_mem (w := w) (k := q) hi HOrd.out HKb.out HMb.out.2 HMr.out hst hfrm HS6.out.2.2.1 HS6.out.2.2.2.1 HS6.out.2.2.2.2
            rw [if_pos hq4] at hS8
            have c8 := hm8.cell i _ (mC_get m hi)
            have f8 := hm8.frozen i
            have HS8 : Hid _ := hS8
            have HA8 : Hid _ := hab
            clear hm8 hS8 hab hst hfrm HD HS6
            go_upto_region 37 with fail
            generalize (w'.setCell ⟨mb, i, none⟩ (.int .i64 (q : Int))) = W8 at *
            generalize up m i q = m' at *
            have mc0 := HS8.out.2.2.1.cell 0 _ rfl
            have mc1 := HS8.out.2.2.1.cell 1 _ rfl
            have mc2 := HS8.out.2.2.1.cell 2 _ rfl
            have kc0 := HS8.out.2.1.cell 0 _ rfl
            have kc1 := HS8.out.2.1.cell 1 _ rfl
            have kc2 := HS8.out.2.1.cell 2 _ rfl
            have kc3 := HS8.out.2.1.cell 3 _ rfl
            have kc4 := HS8.out.2.1.cell 4 _ rfl
            have kc5 := HS8.out.2.1.cell 5 _ rfl
            have kc6 := HS8.out.2.1.cell 6 _ rfl
            have kc7 := HS8.out.2.1.cell 7 _ rfl
            have kc8 := HS8.out.2.1.cell 8 _ rfl
            have kc9 := HS8.out.2.1.cell 9 _ rfl
            have kc10 := HS8.out.2.1.cell 10 _ rfl
            have kc11 := HS8.out.2.1.cell 11 _ rfl
            clear c8 f8
            go_wp2_with (go_at_call 8; refine Calls.mono (check_any HS8.out.1 HA8.out HOrd.out) ?_; rintro e w9 ⟨rfl, hst9, hb9⟩)
            go_roundw
            case rel =>
              have hl1 := HOrd.out.es
              have hl2 := HOrd.out.sr
              have hl3 := HOrd.out.rq
              have hl4 := HOrd.out.qB
              have hl5 := HS8.out.1.bB
              have hl6 := HKb.out.1
              have hl7 := HKb.out.2
              have hl8 := HMr.out
              have R : ∃ k' : Nat, k' ≤ len ∧ (Value.int .i64 ((k : Int) + 1)) = .int .i64 k' ∧ LI w a4 a6 eb kb sb mb qb r B w9 :=
                ⟨k + 1, by omega, by go_num, m', pl', L', hst9, HA8.out, HS8.out.2.1.later (by omega) hb9, HS8.out.2.2.1.later (by omega) hb9, HS8.out.2.2.2.trans (hb9.mono (by omega))⟩
              first | exact R | ((repeat apply Exists.intro); exact ⟨R, rfl⟩)
            case measure => simp [intOf]; omega
          · obtain rfl : q = 4 := by omega
            have hdep := dep_any HS6.out.1 HS6.out.2.1 HOrd.out hi (k := 4) (by omega)
            rw [vp_none] at hdep
            have HD : Hid _ := hdep
            clear hdep
            go_upto_region 36 with fail
            refine Calls.mono HD.out ?_
            rintro e w' hpost
            unfold Post at hpost
            obtain ⟨rfl, ⟨pl', L', hst, hab⟩, hfrm⟩ := hpost
            obtain ⟨hm8, hS8⟩ := step_mem (w := w) (k := 4) hi HOrd.out HKb.out HMb.out.2 HMr.out hst hfrm HS6.out.2.2.1 HS6.out.2.2.2.1 HS6.out.2.2.2.2
            rw [if_neg (by omega)] at hS8
            have c8 := hm8.cell i _ (mC_get m hi)
            have f8 := hm8.frozen i
            have HS8 : Hid _ := hS8
            have HA8 : Hid _ := hab
            clear hm8 hS8 hab hst hfrm HD HS6
            go_upto_region 37 with fail
            generalize (w'.setCell ⟨mb, i, none⟩ (.int .i64 (-1))) = W8 at *
            generalize up m i 4 = m' at *
            have mc0 := HS8.out.2.2.1.cell 0 _ rfl
            have mc1 := HS8.out.2.2.1.cell 1 _ rfl
            have mc2 := HS8.out.2.2.1.cell 2 _ rfl
            have kc0 := HS8.out.2.1.cell 0 _ rfl
            have kc1 := HS8.out.2.1.cell 1 _ rfl
            have kc2 := HS8.out.2.1.cell 2 _ rfl
            have kc3 := HS8.out.2.1.cell 3 _ rfl
            have kc4 := HS8.out.2.1.cell 4 _ rfl
            have kc5 := HS8.out.2.1.cell 5 _ rfl
            have kc6 := HS8.out.2.1.cell 6 _ rfl
            have kc7 := HS8.out.2.1.cell 7 _ rfl
            have kc8 := HS8.out.2.1.cell 8 _ rfl
            have kc9 := HS8.out.2.1.cell 9 _ rfl
            have kc10 := HS8.out.2.1.cell 10 _ rfl
            have kc11 := HS8.out.2.1.cell 11 _ rfl
            clear c8 f8
            go_wp2_with (go_at_call 8; refine Calls.mono (check_any HS8.out.1 HA8.out HOrd.out) ?_; rintro e w9 ⟨rfl, hst9, hb9⟩)
            go_roundw
            case rel =>
              have hl1 := HOrd.out.es
              have hl2 := HOrd.out.sr
              have hl3 := HOrd.out.rq
              have hl4 := HOrd.out.qB
              have hl5 := HS8.out.1.bB
              have hl6 := HKb.out.1
              have hl7 := HKb.out.2
              have hl8 := HMr.out
              have R : ∃ k' : Nat, k' ≤ len ∧ (Value.int .i64 ((k : Int) + 1)) = .int .i64 k' ∧ LI w a4 a6 eb kb sb mb qb r B w9 :=
                ⟨k + 1, by omega, by go_num, m', pl', L', hst9, HA8.out, HS8.out.2.1.later (by omega) hb9, HS8.out.2.2.1.later (by omega) hb9, HS8.out.2.2.2.trans (hb9.mono (by omega))⟩
              first | exact R | ((repeat apply Exists.intro); exact ⟨R, rfl⟩)
            case measure => simp [intOf]; omega
        · obtain rfl : k = len := by omega
          go_wp2
          go_ret
          exact ⟨rfl, by rw [HEb.out]; exact HS.out.2.2.2.2⟩
end Go.Proofs.YbulkbnzmDoor.Law1
