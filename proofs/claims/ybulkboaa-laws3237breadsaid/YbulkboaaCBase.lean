import Derived.Test.YbulkboaaRows
import Derived.Test.YbulkboaaMapLaw
import Derived.WalkKit
import Derived.WalkSpells
import Derived.LaidEqlPtr
import Derived.RegionTactic
import Derived.BigRegion
import Derived.Deep.QuietTactic
import Derived.BigQuiet
import Derived.Deep.RegionHeld3
namespace Go.Proofs.Ybulkboaa.CBase
open Go.RowKit MapLaw
set_option linter.unusedVariables false

/-- block b holds the cells cs, of type t, none of them frozen -/
def Blk (W : World) (b : Nat) (cs : Array Value) (t : TypeId) : Prop := W.heap[b]? = some (.cells cs t (0, 0))
theorem Blk.cell {W : World} {b : Nat} {cs : Array Value} {t : TypeId} (h : Blk W b cs t) (i : Nat) (v : Value) (hv : cs[i]? = some v) : W.cell? ⟨b, i, none⟩ = some v := by
  rw [cell_of_row W b i cs t (0, 0) h]; exact hv
theorem Blk.frozen {W : World} {b : Nat} {cs : Array Value} {t : TypeId} (h : Blk W b cs t) (i : Nat) : W.frozen? ⟨b, i, none⟩ = false := frozen_of_row W b i cs t h
theorem Blk.lt {W : World} {b : Nat} {cs : Array Value} {t : TypeId} (h : Blk W b cs t) : b < W.heap.size := (Array.getElem?_eq_some_iff.1 h).1
theorem Blk.alloc {W : World} {b : Nat} {cs : Array Value} {t : TypeId} (h : Blk W b cs t) (o : Obj) : Blk (W.alloc o) b cs t := (Below.heap_alloc _ _ _ h.lt).trans h
theorem Blk.drew {W : World} {b : Nat} {cs : Array Value} {t : TypeId} (h : Blk W b cs t) : Blk W.drew b cs t := h
theorem Blk.drewN {W : World} {b : Nat} {cs : Array Value} {t : TypeId} (h : Blk W b cs t) (n : Nat) : Blk (W.drewN n) b cs t := h
theorem Blk.new (W : World) (cs : Array Value) (t : TypeId) : Blk (W.alloc (.cells cs t)) W.heap.size cs t := heap_alloc_new W _
theorem Blk.new' (W : World) (cs : Array Value) (t : TypeId) (n : Nat) (hn : n = W.heap.size) : Blk (W.alloc (.cells cs t)) n cs t := by subst hn; exact Blk.new W cs t
theorem Blk.set {W : World} {b : Nat} {cs : Array Value} {t : TypeId} (h : Blk W b cs t) (i : Nat) (v : Value) : Blk (W.setCell ⟨b, i, none⟩ v) b (cs.setIfInBounds i v) t := heap_setCell_same W b i cs t v h
theorem Blk.other {W : World} {b : Nat} {cs : Array Value} {t : TypeId} (h : Blk W b cs t) {a : Addr} (ha : b ≠ a.block) (v : Value) : Blk (W.setCell a v) b cs t := (Below.heap_setCell W a v b ha).trans h
theorem Blk.map {W : World} {b : Nat} {cs : Array Value} {t : TypeId} (h : Blk W b cs t) {r : Nat} (hr : b ≠ r) (o : Obj) : Blk (ChangeMaps.setBlock W r o) b cs t := by
  unfold Blk ChangeMaps.setBlock
  simp only
  rw [Array.getElem?_setIfInBounds_ne (by omega)]
  exact h
theorem Blk.later {W W' : World} {b : Nat} {cs : Array Value} {t : TypeId} (h : Blk W b cs t) {B : Nat} (hB : b < B) (hb : Below B W W') : Blk W' b cs t := (hb.block b hB).trans h

/-- a fresh txnState -/
def fresh86 : Array Value := #[.int .i64 0, .int .i64 0, .pointer none, .int .u8 0, .slice none 0 0, .slice none 0 0, .map none, .slice none 0 0, .slice none 0 0, .slice none 0 0, .int .i64 0, .int .i64 0, .pointer none, .int .i64 0, .int .u8 0, .int .i64 0, .string ⟨#[]⟩, .string ⟨#[]⟩, .nilIface, .int .u32 0]

/-- four transactions lie in the blocks from pb on -/
def Pool (W : World) (pb : Nat) : Prop := ∀ i, i < 4 → W.heap[pb + i]? = some (.cells fresh86 86 (0, 0))

/-- the pointer to transaction i -/
def K (pb i : Nat) : Value := .pointer (some ⟨pb + i, 0, none⟩)

theorem info86 : (Yba.prog.info? 86).map (fun i => i.size) = some 20 := by kernel_rfl

theorem equal_same (W : World) (a : Addr) : (Op.equal 65 (.pointer (some a)) (.pointer (some a))).run Yba.prog W = .ok true W := by
  obtain ⟨d, hd, hd2⟩ := Option.map_eq_some_iff.1 info86
  have h : ∀ d : Nat, (Op.equalIn (d + 1) 65 (.pointer (some a)) (.pointer (some a))).run Yba.prog W = .ok true W := fun d => by
    simp [Op.equalIn, run_underlying Yba.underlying65, sizeOf, typeInfo, hd, run_sameAddr_same]
  exact h 9999
theorem equal_other (W : World) (a b : Addr) (h0 : (sameAddr a b).run Yba.prog W = .ok false W) : (Op.equal 65 (.pointer (some a)) (.pointer (some b))).run Yba.prog W = .ok false W := by
  obtain ⟨d, hd, hd2⟩ := Option.map_eq_some_iff.1 info86
  have h : ∀ d : Nat, (Op.equalIn (d + 1) 65 (.pointer (some a)) (.pointer (some b))).run Yba.prog W = .ok false W := fun d => by
    simp [Op.equalIn, run_underlying Yba.underlying65, sizeOf, typeInfo, hd, hd2, h0]
  exact h 9999
theorem equal_nil (W : World) (b : Option Addr) : (Op.equal 65 (.pointer none) (.pointer b)).run Yba.prog W = .ok b.isNone W := by
  have h : ∀ d : Nat, (Op.equalIn (d + 1) 65 (.pointer none) (.pointer b)).run Yba.prog W = .ok b.isNone W := fun d => by
    simp [Op.equalIn, run_underlying Yba.underlying65]
  exact h 9999

theorem equal_pool {W : World} {pb : Nat} (hp : Pool W pb) (i j : Nat) (hi : i < 4) (hj : j < 4) : (Op.equal 65 (K pb i) (K pb j)).run Yba.prog W = .ok (i == j) W := by
  by_cases h : i = j
  · subst h
    simpa [K] using equal_same W _
  · have := equal_other W _ _ (run_sameAddr_other W (P := Yba.prog) (a := ⟨pb + i, 0, none⟩) (b := ⟨pb + j, 0, none⟩) (by intro e; injection e with e1; omega) (hp i hi) (hp j hj))
    rw [show (i == j) = false from beq_eq_false_iff_ne.2 h]
    exact this

theorem keys_pool {W : World} {pb : Nat} (hp : Pool W pb) : Keys Yba.prog W 65 (K pb) 4 where
  eq := fun i j hi hj => equal_pool hp i j hi hj
  check := fun e i hi => by unfold Instr.checkKey; simp [K, run_underlying Yba.underlying65]
  under := ⟨_, Yba.underlying65, fun i j _ _ => rfl⟩
  bits := fun i hi => by simp [K, Instr.sameBits]

/-- the pointer that index i picks: 4 means nil -/
def pp (pb i : Nat) : Option Addr := if i < 4 then some ⟨pb + i, 0, none⟩ else none

theorem eql_of {W : World} {a b : Value} {r : Bool} (h : (Op.equal 65 a b).run Yba.prog W = .ok r W) (ha : ∃ p, a = .pointer p) (hb : ∃ p, b = .pointer p) : (binOp .eql 65 a b).run Yba.prog W = .ok (.bool r) W := by
  obtain ⟨p, rfl⟩ := ha
  obtain ⟨q, rfl⟩ := hb
  simp only [binOp]
  simp [h]

theorem eql_pool {W : World} {pb : Nat} (hp : Pool W pb) (i q : Nat) (hq : q < 4) :
    (binOp .eql 65 (.pointer (pp pb i)) (.pointer (some ⟨pb + q, 0, none⟩))).run Yba.prog W = .ok (.bool (i == q)) W := by
  refine eql_of ?_ ⟨_, rfl⟩ ⟨_, rfl⟩
  by_cases hi : i < 4
  · simp only [pp, hi, if_true]
    exact equal_pool hp i q hi hq
  · have hn : (i == q) = false := by rw [beq_eq_false_iff_ne]; omega
    rw [hn]
    simp only [pp, hi, if_false]
    exact equal_nil W _

theorem eql_refl (W : World) (pb i : Nat) :
    (binOp .eql 65 (.pointer (pp pb i)) (.pointer (pp pb i))).run Yba.prog W = .ok (.bool true) W := by
  refine eql_of ?_ ⟨_, rfl⟩ ⟨_, rfl⟩
  by_cases hi : i < 4
  · simp only [pp, hi, if_true]
    exact equal_same W _
  · simp only [pp, hi, if_false]
    exact equal_nil W _

theorem Pool.later {W W' : World} {pb : Nat} (h : Pool W pb) {B : Nat} (hB : pb + 4 ≤ B) (hb : Below B W W') : Pool W' pb := fun i hi => by rw [hb.block (pb + i) (by omega)]; exact h i hi
theorem Pool.lt {W : World} {pb : Nat} (h : Pool W pb) : pb + 4 ≤ W.heap.size := by
  have h3 := h 3 (by omega)
  have := (Array.getElem?_eq_some_iff.1 h3).1
  omega

theorem pool_four (w : World) : Pool ((((w.alloc (.cells fresh86 86)).alloc (.cells fresh86 86)).alloc (.cells fresh86 86)).alloc (.cells fresh86 86)) w.heap.size := by
  intro i hi
  match i, hi with
  | 0, _ =>
    rw [Below.heap_alloc _ _ _ (by simp; omega), Below.heap_alloc _ _ _ (by simp; omega), Below.heap_alloc _ _ _ (by simp)]
    exact heap_alloc_new w _
  | 1, _ =>
    rw [Below.heap_alloc _ _ _ (by simp), Below.heap_alloc _ _ _ (by simp)]
    have := heap_alloc_new (w.alloc (.cells fresh86 86)) (.cells fresh86 86)
    simpa using this
  | 2, _ =>
    rw [Below.heap_alloc _ _ _ (by simp)]
    have := heap_alloc_new ((w.alloc (.cells fresh86 86)).alloc (.cells fresh86 86)) (.cells fresh86 86)
    simpa using this
  | 3, _ =>
    have := heap_alloc_new (((w.alloc (.cells fresh86 86)).alloc (.cells fresh86 86)).alloc (.cells fresh86 86)) (.cells fresh86 86)
    simpa using this

/-- zzs3237cpool -/
theorem pool_any (w : World) : Calls Yba.prog 13 #[] w fun e w' => e = .returned (.agg #[K (w.heap.size + 1) 0, K (w.heap.size + 1) 1, K (w.heap.size + 1) 2, K (w.heap.size + 1) 3]) ∧ Pool w' (w.heap.size + 1) ∧ Below w.heap.size w w' := by
  go_enter Yba.func13, Yba.ntmps13
  go_wp2
  refine bodyPost_ret (v := .agg #[K (w.heap.size + 1) 0, K (w.heap.size + 1) 1, K (w.heap.size + 1) 2, K (w.heap.size + 1) 3]) (by simp [results, Yba.results13, go_sem, K]) rfl ⟨rfl, ?_, ?_⟩
  · have hs := World.size_alloc w (Obj.cells #[K (w.heap.size + 1) 0, .pointer (some ⟨w.heap.size + 1 + 1, 0, none⟩), .pointer (some ⟨w.heap.size + 1 + 1 + 1, 0, none⟩), .pointer (some ⟨w.heap.size + 1 + 1 + 1 + 1, 0, none⟩)] 105)
    have hp := pool_four (w.alloc (Obj.cells #[K (w.heap.size + 1) 0, .pointer (some ⟨w.heap.size + 1 + 1, 0, none⟩), .pointer (some ⟨w.heap.size + 1 + 1 + 1, 0, none⟩), .pointer (some ⟨w.heap.size + 1 + 1 + 1 + 1, 0, none⟩)] 105))
    rw [hs] at hp
    exact hp
  · exact (((((Below.refl _ _).alloc (Nat.le_refl _) _).alloc (by simp) _).alloc (by simp; omega) _).alloc (by simp; omega) _).alloc (by simp; omega) _

/-- zzs3237cidx -/
theorem idx_any (x : Nat) (w : World) (h1 : x ≤ 255) : Calls Yba.prog 15 #[.int .u8 (x : Int)] w fun e w' => e = .returned (.int .i64 ((x % 5 : Nat) : Int)) ∧ w' = w := by
  go_enter Yba.func15, Yba.ntmps15
  go_wp2
  go_ret
  exact ⟨by simp, rfl⟩

/-- zzs3237cpick -/
theorem pick_any (pb i : Nat) (w : World) (h : i ≤ 4) : Calls Yba.prog 14 #[.agg #[K pb 0, K pb 1, K pb 2, K pb 3], .int .i64 (i : Int)] w fun e w' =>
    e = .returned (.pointer (pp pb i)) ∧ w' = w.alloc (.cells #[K pb 0, K pb 1, K pb 2, K pb 3] 105) := by
  match i, h with
  | 0, _ => go_enter Yba.func14, Yba.ntmps14; go_wp2; go_ret; exact ⟨rfl, rfl⟩
  | 1, _ => go_enter Yba.func14, Yba.ntmps14; go_wp2; go_ret; exact ⟨rfl, rfl⟩
  | 2, _ => go_enter Yba.func14, Yba.ntmps14; go_wp2; go_ret; exact ⟨rfl, rfl⟩
  | 3, _ => go_enter Yba.func14, Yba.ntmps14; go_wp2; go_ret; exact ⟨rfl, rfl⟩
  | 4, _ => go_enter Yba.func14, Yba.ntmps14; go_wp2; go_ret; exact ⟨rfl, rfl⟩
end Go.Proofs.Ybulkboaa.CBase
