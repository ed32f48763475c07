import Derived.Test.YbulkbnzmDoorRows
import Derived.Test.YbulkbnzmDoorMapLaw
import Derived.WalkKit
import Derived.WalkSpells
import Derived.WalkLawsBesides
import Derived.LaidEqlPtr
import Derived.RegionTactic
import Derived.BigRegion
import Derived.Deep.QuietTactic
import Derived.BigQuiet
import Derived.Deep.RegionHeld3
import Derived.Laws.StructEq
import Derived.MapKept
import Derived.ChangeMaps4
namespace Go.Proofs.YbulkbnzmDoor.Base
open Go.RowKit MapLaw
set_option linter.unusedVariables false

/-- block b holds the cells cs, of type t, none of them frozen -/
def Blk (W : World) (b : Nat) (cs : Array Value) (t : TypeId) : Prop := W.heap[b]? = some (.cells cs t (0, 0))
theorem Blk.cell {W : World} {b : Nat} {cs : Array Value} {t : TypeId} (h : Blk W b cs t) (i : Nat) (v : Value) (hv : cs[i]? = some v) : W.cell? ⟨b, i, none⟩ = some v := by
  rw [cell_of_row W b i cs t (0, 0) h]; exact hv
theorem Blk.frozen {W : World} {b : Nat} {cs : Array Value} {t : TypeId} (h : Blk W b cs t) (i : Nat) : W.frozen? ⟨b, i, none⟩ = false := frozen_of_row W b i cs t h
theorem Blk.lt {W : World} {b : Nat} {cs : Array Value} {t : TypeId} (h : Blk W b cs t) : b < W.heap.size := (Array.getElem?_eq_some_iff.1 h).1
theorem Blk.alloc {W : World} {b : Nat} {cs : Array Value} {t : TypeId} (h : Blk W b cs t) (o : Obj) : Blk (W.alloc o) b cs t := (Below.heap_alloc _ _ _ h.lt).trans h
theorem Blk.drew {W : World} {b : Nat} {cs : Array Value} {t : TypeId} (h : Blk W b cs t) : Blk W.drew b cs t := h
theorem Blk.drewN {W : World} {b : Nat} {cs : Array Value} {t : TypeId} (h : Blk W b cs t) (n : Nat) : Blk (W.drewN n) b cs t := h
theorem Blk.new (W : World) (cs : Array Value) (t : TypeId) : Blk (W.alloc (.cells cs t)) W.heap.size cs t := heap_alloc_new W _
theorem Blk.new' (W : World) (cs : Array Value) (t : TypeId) (n : Nat) (hn : n = W.heap.size) : Blk (W.alloc (.cells cs t)) n cs t := by subst hn; exact Blk.new W cs t
theorem Blk.set {W : World} {b : Nat} {cs : Array Value} {t : TypeId} (h : Blk W b cs t) (i : Nat) (v : Value) : Blk (W.setCell ⟨b, i, none⟩ v) b (cs.setIfInBounds i v) t := heap_setCell_same W b i cs t v h
theorem Blk.other {W : World} {b : Nat} {cs : Array Value} {t : TypeId} (h : Blk W b cs t) {a : Addr} (ha : b ≠ a.block) (v : Value) : Blk (W.setCell a v) b cs t := (Below.heap_setCell W a v b ha).trans h
theorem Blk.map {W : World} {b : Nat} {cs : Array Value} {t : TypeId} (h : Blk W b cs t) {r : Nat} (hr : b ≠ r) (o : Obj) : Blk (ChangeMaps.setBlock W r o) b cs t := by
  unfold Blk ChangeMaps.setBlock
  simp only
  rw [Array.getElem?_setIfInBounds_ne (by omega)]
  exact h
theorem Blk.later {W W' : World} {b : Nat} {cs : Array Value} {t : TypeId} (h : Blk W b cs t) {B : Nat} (hB : b < B) (hb : Below B W W') : Blk W' b cs t := (hb.block b hB).trans h

theorem Blk.two (w : World) (A B : Array Value) (s t : TypeId) : Blk ((w.alloc (.cells A s)).alloc (.cells B t)) w.heap.size A s ∧ Blk ((w.alloc (.cells A s)).alloc (.cells B t)) (w.heap.size + 1) B t ∧ Below w.heap.size w ((w.alloc (.cells A s)).alloc (.cells B t)) :=
  ⟨(Blk.new w A s).alloc _, Blk.new' _ _ _ _ (by simp), ((Below.refl _ _).alloc (Nat.le_refl _) _).alloc (by simp) _⟩
theorem Below.setBlock {B : Nat} {a w : World} (h : Below B a w) {r : Nat} (hr : B ≤ r) (o : Obj) : Below B a (ChangeMaps.setBlock w r o) :=
  h.trans ⟨rfl, rfl, rfl, by simp [ChangeMaps.setBlock], fun k hk => by simp only [ChangeMaps.setBlock]; rw [Array.getElem?_setIfInBounds_ne (by omega)]⟩

/-- the three variables of netip, and what they point to -/
structure Gl (W : World) (a4 a6 : Addr) : Prop where
  c0 : W.cell? ⟨0, 0, none⟩ = some (.pointer (some a4))
  c1 : W.cell? ⟨1, 0, none⟩ = some (.pointer (some a6))
  c2 : W.cell? ⟨2, 0, none⟩ = some (.pointer none)
  h4 : ∃ cs t, W.heap[a4.block]? = some (.cells cs t (0, 0))
  h6 : ∃ cs t, W.heap[a6.block]? = some (.cells cs t (0, 0))
  ne : a4 ≠ a6

theorem block_lt {W : World} {r : Nat} {o : Obj} (h : W.heap[r]? = some o) : r < W.heap.size := (Array.getElem?_eq_some_iff.1 h).1

theorem Gl.lt4 {W : World} {a4 a6 : Addr} (h : Gl W a4 a6) : a4.block < W.heap.size := by obtain ⟨cs, t, hh⟩ := h.h4; exact block_lt hh
theorem Gl.lt6 {W : World} {a4 a6 : Addr} (h : Gl W a4 a6) : a6.block < W.heap.size := by obtain ⟨cs, t, hh⟩ := h.h6; exact block_lt hh
theorem Gl.later {W W' : World} {a4 a6 : Addr} (h : Gl W a4 a6) {B : Nat} (hB : 3 ≤ B) (b4 : a4.block < B) (b6 : a6.block < B) (hb : Below B W W') : Gl W' a4 a6 where
  c0 := (hb.cell (p := ⟨0, 0, none⟩) (by simp; omega)).trans h.c0
  c1 := (hb.cell (p := ⟨1, 0, none⟩) (by simp; omega)).trans h.c1
  c2 := (hb.cell (p := ⟨2, 0, none⟩) (by simp; omega)).trans h.c2
  h4 := by obtain ⟨cs, t, hh⟩ := h.h4; exact ⟨cs, t, (hb.block _ b4).trans hh⟩
  h6 := by obtain ⟨cs, t, hh⟩ := h.h6; exact ⟨cs, t, (hb.block _ b6).trans hh⟩
  ne := h.ne

theorem info129 : (Ybad.prog.info? 129).map (fun i => i.size) = some 2 := by kernel_rfl

theorem eq37_same (d : Nat) (W : World) (a : Addr) : (Op.equalIn (d + 1) 37 (.pointer (some a)) (.pointer (some a))).run Ybad.prog W = .ok true W := by
  obtain ⟨i, hi, hi2⟩ := Option.map_eq_some_iff.1 info129
  simp [Op.equalIn, run_underlying Ybad.underlying37, sizeOf, typeInfo, hi, run_sameAddr_same]
theorem eq37_other (d : Nat) {W : World} {a b : Addr} (h0 : (sameAddr a b).run Ybad.prog W = .ok false W) : (Op.equalIn (d + 1) 37 (.pointer (some a)) (.pointer (some b))).run Ybad.prog W = .ok false W := by
  obtain ⟨i, hi, hi2⟩ := Option.map_eq_some_iff.1 info129
  simp [Op.equalIn, run_underlying Ybad.underlying37, sizeOf, typeInfo, hi, hi2, h0]
theorem eq37_nil (d : Nat) (W : World) (a : Addr) : (Op.equalIn (d + 1) 37 (.pointer (some a)) (.pointer none)).run Ybad.prog W = .ok false W := by
  simp [Op.equalIn, run_underlying Ybad.underlying37]

theorem fields39 : Ybad.prog.underlying 39 = some (.struct (Ybad.prog.fieldsOf 39)) := by kernel_rfl
theorem stood39 : Ybad.prog.stoodInHeld 39 = false := by kernel_rfl
theorem eq39 (d : Nat) {W : World} {p q : Option Addr} {r : Bool} (h : (Op.equalIn (d + 1) 37 (.pointer p) (.pointer q)).run Ybad.prog W = .ok r W) :
    (Op.equalIn (d + 2) 39 (.agg #[.pointer p]) (.agg #[.pointer q])).run Ybad.prog W = .ok r W := by
  rw [run_equalIn_agg W (d + 1) 39 _ _ fields39 stood39]
  simp only [Program.fieldsOf, Ybad.underlying39]
  have u37 := Ybad.underlying37
  have z37 := Ybad.sizeOf37
  have g37 := Ybad.isAgg37
  simp [Op.eqFields]
  have hp : ∀ v : Option Addr, (part 37 #[Value.pointer v] 0).run Ybad.prog W = .ok (.pointer v) W := fun v => by
    simp [part, sizeOf, typeInfo, isAgg]
  simp [hp, h]
  cases r <;> simp

theorem part36 (W : World) (u v : Int) (x : Option Addr) : (part 36 #[.int .u64 u, .int .u64 v, .pointer x] 0).run Ybad.prog W = .ok (.agg #[.int .u64 u, .int .u64 v]) W := by
  simp [part, Ybad.sizeOf36, Ybad.isAgg36]
theorem part39 (W : World) (u v : Int) (x : Option Addr) : (part 39 #[.int .u64 u, .int .u64 v, .pointer x] 2).run Ybad.prog W = .ok (.agg #[.pointer x]) W := by
  simp [part, Ybad.sizeOf39, Ybad.isAgg39]
theorem part41 (W : World) (u v y : Int) (x : Option Addr) : (part 41 #[.int .u64 u, .int .u64 v, .pointer x, .int .u8 y] 0).run Ybad.prog W = .ok (.agg #[.int .u64 u, .int .u64 v, .pointer x]) W := by
  simp [part, Ybad.sizeOf41, Ybad.isAgg41]
theorem part5 (W : World) (u v y : Int) (x : Option Addr) : (part 5 #[.int .u64 u, .int .u64 v, .pointer x, .int .u8 y] 3).run Ybad.prog W = .ok (.int .u8 y) W := by
  simp [part, Ybad.sizeOf5, Ybad.isAgg5]
theorem part37 (W : World) (x : Option Addr) : (part 37 #[.pointer x] 0).run Ybad.prog W = .ok (.pointer x) W := by
  simp [part, Ybad.sizeOf37, Ybad.isAgg37]
theorem part24 (W : World) (u v : Int) : (part 24 #[.int .u64 u, .int .u64 v] 0).run Ybad.prog W = .ok (.int .u64 u) W ∧ (part 24 #[.int .u64 u, .int .u64 v] 1).run Ybad.prog W = .ok (.int .u64 v) W := by
  simp [part, Ybad.sizeOf24, Ybad.isAgg24]

theorem fields36 : Ybad.prog.underlying 36 = some (.struct (Ybad.prog.fieldsOf 36)) := by kernel_rfl
theorem stood36 : Ybad.prog.stoodInHeld 36 = false := by kernel_rfl
theorem eq24 (d : Nat) (W : World) (a b : Int) : (Op.equalIn (d + 1) 24 (.int .u64 a) (.int .u64 b)).run Ybad.prog W = .ok (a == b) W := by
  simp [Op.equalIn, run_underlying Ybad.underlying24]
theorem eq5 (d : Nat) (W : World) (a b : Int) : (Op.equalIn (d + 1) 5 (.int .u8 a) (.int .u8 b)).run Ybad.prog W = .ok (a == b) W := by
  simp [Op.equalIn, run_underlying Ybad.underlying5]
theorem eq36 (d : Nat) (W : World) (a b c e : Int) :
    (Op.equalIn (d + 2) 36 (.agg #[.int .u64 a, .int .u64 b]) (.agg #[.int .u64 c, .int .u64 e])).run Ybad.prog W = .ok (a == c && b == e) W := by
  rw [run_equalIn_agg W (d + 1) 36 _ _ fields36 stood36]
  simp only [Program.fieldsOf, Ybad.underlying36]
  have z24 := Ybad.sizeOf24
  have g24 := Ybad.isAgg24
  simp [Op.eqFields]
  have hp : ∀ u v : Int, (part 24 #[.int .u64 u, .int .u64 v] 0).run Ybad.prog W = .ok (.int .u64 u) W := fun u v => by
    simp [part, sizeOf, typeInfo, isAgg]
  have hq : ∀ u v : Int, (part 24 #[.int .u64 u, .int .u64 v] 1).run Ybad.prog W = .ok (.int .u64 v) W := fun u v => by
    simp [part, sizeOf, typeInfo, isAgg]
  simp [hp, hq, eq24]
  by_cases h1 : a = c <;> by_cases h2 : b = e <;> simp [h1, h2]

theorem fields41 : Ybad.prog.underlying 41 = some (.struct (Ybad.prog.fieldsOf 41)) := by kernel_rfl
theorem stood41 : Ybad.prog.stoodInHeld 41 = false := by kernel_rfl
theorem eq41 (d : Nat) (W : World) (a b c e : Int) (p q : Option Addr) (r : Bool) (hr : a = c → b = e → (Op.equalIn (d + 1) 37 (.pointer p) (.pointer q)).run Ybad.prog W = .ok r W) :
    (Op.equalIn (d + 3) 41 (.agg #[.int .u64 a, .int .u64 b, .pointer p]) (.agg #[.int .u64 c, .int .u64 e, .pointer q])).run Ybad.prog W = .ok (a == c && b == e && r) W := by
  rw [run_equalIn_agg W (d + 2) 41 _ _ fields41 stood41]
  simp only [Program.fieldsOf, Ybad.underlying41]
  simp [Op.eqFields]
  simp [part36, part39, eq36]
  by_cases h1 : a = c <;> by_cases h2 : b = e <;> simp [h1, h2]
  rw [eq39 d (hr h1 h2)]
  cases r <;> simp

theorem fields43 : Ybad.prog.underlying 43 = some (.struct (Ybad.prog.fieldsOf 43)) := by kernel_rfl
theorem stood43 : Ybad.prog.stoodInHeld 43 = false := by kernel_rfl
theorem eq43 (d : Nat) (W : World) (a b c e n k : Int) (p q : Option Addr) (r : Bool) (hr : a = c → b = e → (Op.equalIn (d + 1) 37 (.pointer p) (.pointer q)).run Ybad.prog W = .ok r W) :
    (Op.equalIn (d + 4) 43 (.agg #[.int .u64 a, .int .u64 b, .pointer p, .int .u8 n]) (.agg #[.int .u64 c, .int .u64 e, .pointer q, .int .u8 k])).run Ybad.prog W = .ok (a == c && b == e && r && n == k) W := by
  rw [run_equalIn_agg W (d + 3) 43 _ _ fields43 stood43]
  simp only [Program.fieldsOf, Ybad.underlying43]
  simp [Op.eqFields]
  simp [part41, part5, eq41 d W a b c e p q r hr]
  by_cases h : (a == c && b == e && r) = true
  · simp only [Bool.and_eq_true, beq_iff_eq] at h
    obtain ⟨⟨rfl, rfl⟩, rfl⟩ := h
    simp [eq5]
    by_cases h2 : n = k <;> simp [h2]
  · simp only [Bool.not_eq_true] at h
    simp [h]
    intro h1 h2 h3
    simp [h1, h2, h3] at h

/-- the three prefixes -/
def Hi : Nat → Int | 2 => 0x2001000000000000 | _ => 0
def Lo : Nat → Int | 0 => 0xffff0a000000 | 1 => 0xffff0a010000 | _ => 0
def Bt : Nat → Int | 0 => 9 | _ => 17
def Pt (a4 a6 : Addr) : Nat → Addr | 2 => a6 | _ => a4
def KK (a4 a6 : Addr) (g : Nat) : Value := .agg #[.int .u64 (Hi g), .int .u64 (Lo g), .pointer (some (Pt a4 a6 g)), .int .u8 (Bt g)]

theorem equal_KK (a4 a6 : Addr) (W : World) (i j : Nat) (hi : i < 3) (hj : j < 3) : (Op.equal 43 (KK a4 a6 i) (KK a4 a6 j)).run Ybad.prog W = .ok (i == j) W := by
  have h := eq43 9996 W (Hi i) (Lo i) (Hi j) (Lo j) (Bt i) (Bt j) (some (Pt a4 a6 i)) (some (Pt a4 a6 j)) true
  have hs := eq37_same 9996 W
  match i, hi, j, hj with
  | 0, _, 0, _ => exact h fun _ _ => hs _
  | 0, _, 1, _ => exact h fun _ h2 => absurd h2 (by decide)
  | 0, _, 2, _ => exact h fun h2 _ => absurd h2 (by decide)
  | 1, _, 0, _ => exact h fun _ h2 => absurd h2 (by decide)
  | 1, _, 1, _ => exact h fun _ _ => hs _
  | 1, _, 2, _ => exact h fun h2 _ => absurd h2 (by decide)
  | 2, _, 0, _ => exact h fun h2 _ => absurd h2 (by decide)
  | 2, _, 1, _ => exact h fun h2 _ => absurd h2 (by decide)
  | 2, _, 2, _ => exact h fun _ _ => hs _

theorem check24 (e : Bool) (d : Nat) (W : World) (v : Value) : (Instr.checkKey e (d + 1) 24 v).run Ybad.prog W = .ok () W := by simp [Instr.checkKey, run_underlying Ybad.underlying24]
theorem check5 (e : Bool) (d : Nat) (W : World) (v : Value) : (Instr.checkKey e (d + 1) 5 v).run Ybad.prog W = .ok () W := by simp [Instr.checkKey, run_underlying Ybad.underlying5]
theorem check37 (e : Bool) (d : Nat) (W : World) (v : Value) : (Instr.checkKey e (d + 1) 37 v).run Ybad.prog W = .ok () W := by simp [Instr.checkKey, run_underlying Ybad.underlying37]
theorem check39 (e : Bool) (d : Nat) (W : World) (x : Option Addr) : (Instr.checkKey e (d + 2) 39 (.agg #[.pointer x])).run Ybad.prog W = .ok () W := by
  rw [Instr.checkKey]; simp [run_underlying Ybad.underlying39, part37, check37]
theorem check36 (e : Bool) (d : Nat) (W : World) (u v : Int) : (Instr.checkKey e (d + 2) 36 (.agg #[.int .u64 u, .int .u64 v])).run Ybad.prog W = .ok () W := by
  rw [Instr.checkKey]; simp [run_underlying Ybad.underlying36, part24, check24]
theorem check41 (e : Bool) (d : Nat) (W : World) (u v : Int) (x : Option Addr) : (Instr.checkKey e (d + 3) 41 (.agg #[.int .u64 u, .int .u64 v, .pointer x])).run Ybad.prog W = .ok () W := by
  rw [Instr.checkKey]; simp [run_underlying Ybad.underlying41, part36, part39, check36, check39]
theorem check43 (e : Bool) (d : Nat) (W : World) (u v y : Int) (x : Option Addr) : (Instr.checkKey e (d + 4) 43 (.agg #[.int .u64 u, .int .u64 v, .pointer x, .int .u8 y])).run Ybad.prog W = .ok () W := by
  rw [Instr.checkKey]; simp [run_underlying Ybad.underlying43, part41, part5, check41, check5]
theorem keys (a4 a6 : Addr) (W : World) : Keys Ybad.prog W 43 (KK a4 a6) 3 where
  eq := fun i j hi hj => equal_KK a4 a6 W i j hi hj
  check := fun e i hi => by
    exact check43 e 9996 W _ _ _ _
  under := ⟨_, Ybad.underlying43, fun i j _ _ => rfl⟩
  bits := fun i hi => by simp [KK, Instr.sameBits]
end Go.Proofs.YbulkbnzmDoor.Base
