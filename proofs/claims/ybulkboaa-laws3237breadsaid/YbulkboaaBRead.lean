import Derived.Test.YbulkboaaBReach2
import Derived.Test.YbulkboaaBMap
import Derived.Test.YbulkboaaBLocks
import Derived.Conc.MuLone
import Derived.Defers
namespace Go.Proofs.Ybulkboaa.BRead
open Go.RowKit MapLaw CBase BPlain BBreach BMem BLink BFollow BReach BReach2 BMap Go.MuLone
set_option linter.unusedVariables false
set_option maxRecDepth 100000

/-- the cells of the policy -/
def pc (lk : Int) (mi mp : Nat) (sr : Int) (stk : Value) : Array Value := #[.int .i32 lk, .int .u32 0, .map (some mi), .map (some mp), .int .i64 0, .int .u64 sr, stk, .slice none 0 0, .slice none 0 0, .slice none 0 0, .nilFunc]
/-- the cells of the transaction -/
def tc (v : Value) : Array Value := #[.int .i64 0, .int .i64 0, .pointer none, .int .u8 0, .slice none 0 0, .slice none 0 0, .map none, .slice none 0 0, .slice none 0 0, .slice none 0 0, .int .i64 0, .int .i64 0, v, .int .i64 0, .int .u8 0, .int .i64 0, .string ⟨#[]⟩, .string ⟨#[]⟩, .nilIface, .int .u32 0]
/-- the cells of the item -/
def ic (s : ByteArray) (fl : Nat) : Array Value := #[.string s, .int .u32 0, .int .u32 0, .pointer none, .pointer none, .pointer none, .int .i64 0, .int .i64 0, .int .u8 0, .int .u8 (fl : Int), .bool false, .bool false, .int .u32 0]

/-- the blocks of read, told apart -/
structure RO (F : Nat → Prop) (na : Nat → Nat) (N p tb ib mi mp eb : Nat) (he : Bool) : Prop where
  o1 : mi < mp
  o2 : mp < p
  o3 : p < tb
  o4 : tb < ib
  o5 : he = true → p < eb ∧ eb < tb
  fp : Fx F na N p
  ft : Fx F na N tb
  fi : Fx F na N ib
  fmi : Fx F na N mi
  fmp : Fx F na N mp
  fe : he = true → Fx F na N eb

/-- the blocks that read may turn -/
def Own (p tb ib mi eb : Nat) (he : Bool) (b : Nat) : Prop := b = p ∨ b = tb ∨ b = ib ∨ b = mi ∨ (he = true ∧ b = eb)
def Gk (F : Nat → Prop) (na : Nat → Nat) (N p tb ib mi eb : Nat) (he : Bool) : Nat → Prop := fun b => Fx F na N b ∧ ¬ Own p tb ib mi eb he b

/-- the memory of read -/
structure RM (W : World) (p tb ib mi mp eb : Nat) (lk sr : Int) (stk : Value) (s : ByteArray) (fl : Nat) (tv : Value) (he : Bool) (wv rdv : Value) (io vo : Option Value) (ci cp : Nat) : Prop where
  bp : Blk W p (pc lk mi mp sr stk) 61
  bt : Blk W tb (tc tv) 86
  bi : Blk W ib (ic s fl) 97
  be : he = true → Blk W eb #[wv, rdv] 64
  hmi : W.heap[mi]? = some (.map (me s io) ci)
  hmp : W.heap[mp]? = some (.map (me s vo) cp)

section
variable {W W' : World} {p tb ib mi mp eb : Nat} {lk sr : Int} {stk : Value} {s : ByteArray} {fl : Nat} {tv : Value} {he : Bool} {wv rdv : Value} {io vo : Option Value} {ci cp : Nat} {F : Nat → Prop} {na : Nat → Nat} {N : Nat}
theorem RM.same (h : RM W p tb ib mi mp eb lk sr stk s fl tv he wv rdv io vo ci cp) (o : RO F na N p tb ib mi mp eb he) (hs : ∀ b, Fx F na N b → W'.heap[b]? = W.heap[b]?) : RM W' p tb ib mi mp eb lk sr stk s fl tv he wv rdv io vo ci cp :=
  ⟨(hs _ o.fp).trans h.bp, (hs _ o.ft).trans h.bt, (hs _ o.fi).trans h.bi, fun q => (hs _ (o.fe q)).trans (h.be q), (hs _ o.fmi).trans h.hmi, (hs _ o.fmp).trans h.hmp⟩
theorem RM.lock (h : RM W p tb ib mi mp eb lk sr stk s fl tv he wv rdv io vo ci cp) (o : RO F na N p tb ib mi mp eb he) (x : Int) : RM (W.setCell ⟨p, 0, none⟩ (.int .i32 x)) p tb ib mi mp eb x sr stk s fl tv he wv rdv io vo ci cp := by
  have := o.o1; have := o.o2; have := o.o3; have := o.o4
  exact ⟨h.bp.set 0 _, h.bt.other (by simp; omega) _, h.bi.other (by simp; omega) _, fun q => (h.be q).other (by have := o.o5 q; simp; omega) _, (Below.heap_setCell _ _ _ _ (by simp; omega)).trans h.hmi, (Below.heap_setCell _ _ _ _ (by simp; omega)).trans h.hmp⟩
theorem RM.search (h : RM W p tb ib mi mp eb lk sr stk s fl tv he wv rdv io vo ci cp) (o : RO F na N p tb ib mi mp eb he) (x : Int) : RM (W.setCell ⟨p, 5, none⟩ (.int .u64 x)) p tb ib mi mp eb lk x stk s fl tv he wv rdv io vo ci cp := by
  have := o.o1; have := o.o2; have := o.o3; have := o.o4
  exact ⟨h.bp.set 5 _, h.bt.other (by simp; omega) _, h.bi.other (by simp; omega) _, fun q => (h.be q).other (by have := o.o5 q; simp; omega) _, (Below.heap_setCell _ _ _ _ (by simp; omega)).trans h.hmi, (Below.heap_setCell _ _ _ _ (by simp; omega)).trans h.hmp⟩
theorem RM.flags (h : RM W p tb ib mi mp eb lk sr stk s fl tv he wv rdv io vo ci cp) (o : RO F na N p tb ib mi mp eb he) (x : Nat) : RM (W.setCell ⟨ib, 9, none⟩ (.int .u8 (x : Int))) p tb ib mi mp eb lk sr stk s x tv he wv rdv io vo ci cp := by
  have := o.o1; have := o.o2; have := o.o3; have := o.o4
  exact ⟨h.bp.other (by simp; omega) _, h.bt.other (by simp; omega) _, h.bi.set 9 _, fun q => (h.be q).other (by have := o.o5 q; simp; omega) _, (Below.heap_setCell _ _ _ _ (by simp; omega)).trans h.hmi, (Below.heap_setCell _ _ _ _ (by simp; omega)).trans h.hmp⟩
theorem RM.node (h : RM W p tb ib mi mp eb lk sr stk s fl tv he wv rdv io vo ci cp) (o : RO F na N p tb ib mi mp eb he) (x : Value) : RM (W.setCell ⟨tb, 12, none⟩ x) p tb ib mi mp eb lk sr stk s fl x he wv rdv io vo ci cp := by
  have := o.o1; have := o.o2; have := o.o3; have := o.o4
  exact ⟨h.bp.other (by simp; omega) _, h.bt.set 12 _, h.bi.other (by simp; omega) _, fun q => (h.be q).other (by have := o.o5 q; simp; omega) _, (Below.heap_setCell _ _ _ _ (by simp; omega)).trans h.hmi, (Below.heap_setCell _ _ _ _ (by simp; omega)).trans h.hmp⟩
theorem RM.writer (h : RM W p tb ib mi mp eb lk sr stk s fl tv he wv rdv io vo ci cp) (o : RO F na N p tb ib mi mp eb he) (q : he = true) (x : Value) : RM (W.setCell ⟨eb, 0, none⟩ x) p tb ib mi mp eb lk sr stk s fl tv he x rdv io vo ci cp := by
  have := o.o1; have := o.o2; have := o.o3; have := o.o4; have := o.o5 q
  exact ⟨h.bp.other (by simp; omega) _, h.bt.other (by simp; omega) _, h.bi.other (by simp; omega) _, fun q => (h.be q).set 0 _, (Below.heap_setCell _ _ _ _ (by simp; omega)).trans h.hmi, (Below.heap_setCell _ _ _ _ (by simp; omega)).trans h.hmp⟩
theorem RM.forget (h : RM W p tb ib mi mp eb lk sr stk s fl tv he wv rdv io vo ci cp) (o : RO F na N p tb ib mi mp eb he) : RM (ChangeMaps.setBlock W mi (.map (me s none) ci)) p tb ib mi mp eb lk sr stk s fl tv he wv rdv none vo ci cp := by
  have := o.o1; have := o.o2; have := o.o3; have := o.o4
  have hl : mi < W.heap.size := (Array.getElem?_eq_some_iff.1 h.hmi).1
  refine ⟨h.bp.map (by omega) _, h.bt.map (by omega) _, h.bi.map (by omega) _, fun q => (h.be q).map (by have := o.o5 q; omega) _, by simp [ChangeMaps.setBlock, hl], ?_⟩
  unfold ChangeMaps.setBlock
  simp only
  rw [Array.getElem?_setIfInBounds_ne (by omega)]
  exact h.hmp
end

/-- the writer that counts: none if there is none or it is gone -/
def live (st : Nat → Nat) (wn : Option Nat) : Option Nat := match wn with | none => none | some i => if st i = 2 then none else some i

theorem neq_nil (na : Nat → Nat) (o : Option Nat) (W : World) : (binOp .neq 40 (op na o) (.pointer none)).run Yba.prog W = .ok (.bool o.isSome) W := by
  have h : ∀ d : Nat, (Op.equalIn (d + 1) 40 (op na o) (.pointer none)).run Yba.prog W = .ok o.isNone W := fun d => by
    cases o <;> simp [op, Op.equalIn, run_underlying Yba.underlying40]
  have h1 : (Op.equal 40 (op na o) (.pointer none)).run Yba.prog W = .ok o.isNone W := h 9999
  cases o <;> simp only [binOp, op] <;> simp [op] at h1 <;> simp [h1]
theorem eql_nil (na : Nat → Nat) (o : Option Nat) (W : World) : (binOp .eql 40 (op na o) (.pointer none)).run Yba.prog W = .ok (.bool o.isNone) W := by
  have h : ∀ d : Nat, (Op.equalIn (d + 1) 40 (op na o) (.pointer none)).run Yba.prog W = .ok o.isNone W := fun d => by
    cases o <;> simp [op, Op.equalIn, run_underlying Yba.underlying40]
  have h1 : (Op.equal 40 (op na o) (.pointer none)).run Yba.prog W = .ok o.isNone W := h 9999
  cases o <;> simp only [binOp, op] <;> simp [op] at h1 <;> simp [h1]

/-- nodeOf, the node there -/
theorem nodeOf_some {W : World} {p tb : Nat} {x : Addr} (bt : Blk W tb (tc (.pointer (some x))) 86) : Calls Yba.prog 26 #[.pointer (some ⟨p, 0, none⟩), .pointer (some ⟨tb, 0, none⟩)] W fun e w' => e = .returned (.pointer (some x)) ∧ w' = W := by
  have c12 := bt.cell 12 (.pointer (some x)) rfl
  clear bt
  go_enter Yba.func26, Yba.ntmps26
  go_wp2
  go_ret
  exact ⟨rfl, rfl⟩
/-- nodeOf, a new node -/
theorem nodeOf_none {W : World} {p tb : Nat} (bt : Blk W tb (tc (.pointer none)) 86) : Calls Yba.prog 26 #[.pointer (some ⟨p, 0, none⟩), .pointer (some ⟨tb, 0, none⟩)] W fun e w' => e = .returned (.pointer (some ⟨W.heap.size, 0, none⟩)) ∧
    w' = (W.alloc (.cells (ncell (.slice none 0 0) 0 0 false false) 43)).setCell ⟨tb, 12, none⟩ (.pointer (some ⟨W.heap.size, 0, none⟩)) := by
  have c12 := bt.cell 12 (.pointer none) rfl
  have f12 := bt.frozen 12
  have hl := bt.lt
  have d12 := (bt.alloc (.cells (ncell (.slice none 0 0) 0 0 false false) 43)).cell 12 (.pointer none) rfl
  have g12 := (bt.alloc (.cells (ncell (.slice none 0 0) 0 0 false false) 43)).frozen 12
  clear bt
  unfold ncell at *
  go_enter Yba.func26, Yba.ntmps26
  go_wp2
  go_ret
  exact ⟨by simp, rfl⟩
end Go.Proofs.Ybulkboaa.BRead
