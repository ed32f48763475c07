import Derived.Test.YbulkboaaBBreach
namespace Go.Proofs.Ybulkboaa.BMem
open Go.RowKit MapLaw CBase BPlain BBreach
set_option linter.unusedVariables false

/-- a row's name: (0, i): out of node i; (1, i): expOut of node i; (2, 0): the stack; (3, 0): after -/
abbrev Rid := Nat × Nat
abbrev ro (i : Nat) : Rid := (0, i)
abbrev rx (i : Nat) : Rid := (1, i)
abbrev rs : Rid := (2, 0)
abbrev ra : Rid := (3, 0)
/-- f, but v at r -/
def upr {α : Type} (f : Rid → α) (r : Rid) (v : α) : Rid → α := fun x => if x = r then v else f x
@[simp] theorem upr_same {α : Type} (f : Rid → α) (r : Rid) (v : α) : upr f r v r = v := by simp [upr]
theorem upr_other {α : Type} (f : Rid → α) {r x : Rid} (v : α) (h : x ≠ r) : upr f r v x = f x := by simp [upr, h]
@[simp] theorem upr_ox {α : Type} (f : Rid → α) (i j : Nat) (v : α) : upr f (rx i) v (ro j) = f (ro j) := by simp [upr]
@[simp] theorem upr_xo {α : Type} (f : Rid → α) (i j : Nat) (v : α) : upr f (ro i) v (rx j) = f (rx j) := by simp [upr]
@[simp] theorem upr_so {α : Type} (f : Rid → α) (i : Nat) (v : α) : upr f rs v (ro i) = f (ro i) := by simp [upr]
@[simp] theorem upr_sx {α : Type} (f : Rid → α) (i : Nat) (v : α) : upr f rs v (rx i) = f (rx i) := by simp [upr]
@[simp] theorem upr_sa {α : Type} (f : Rid → α) (v : α) : upr f rs v ra = f ra := by simp [upr]
@[simp] theorem upr_oa {α : Type} (f : Rid → α) (i : Nat) (v : α) : upr f (ro i) v ra = f ra := by simp [upr]
@[simp] theorem upr_os {α : Type} (f : Rid → α) (i : Nat) (v : α) : upr f (ro i) v rs = f rs := by simp [upr]
@[simp] theorem upr_ao {α : Type} (f : Rid → α) (i : Nat) (v : α) : upr f ra v (ro i) = f (ro i) := by simp [upr]
@[simp] theorem upr_ax {α : Type} (f : Rid → α) (i : Nat) (v : α) : upr f ra v (rx i) = f (rx i) := by simp [upr]
@[simp] theorem upr_as {α : Type} (f : Rid → α) (v : α) : upr f ra v rs = f rs := by simp [upr]

/-- the rows of pointers lie each in a block of its own, none of them among the blocks of F -/
structure Sep (W : World) (F : Nat → Prop) (rows : Rid → Value) (vals : Rid → List Value) : Prop where
  own : ∀ r, W.ownsRow 0 40 1 (rows r) (vals r).length (vals r)
  apart : ∀ r s b, (rows r).ownBlock = some b → (rows s).ownBlock = some b → r = s
  free : ∀ r b, (rows r).ownBlock = some b → ¬ F b
  old : ∀ b, F b → b < W.heap.size

theorem own_lt {W : World} {v : Value} {n b : Nat} {xs : List Value} (h : W.ownsRow 0 40 1 v n xs) (hb : v.ownBlock = some b) : b < W.heap.size := by
  rcases h.2 with ⟨rfl, _⟩ | ⟨g, cap, cur, rfl, _, hg, _⟩
  · simp [Value.ownBlock] at hb
  · simp [Value.ownBlock] at hb
    subst hb
    exact (Array.getElem?_eq_some_iff.1 hg).1
theorem own_same {W W' : World} {v : Value} {n : Nat} {xs : List Value} (h : W.ownsRow 0 40 1 v n xs) (hs : ∀ b, v.ownBlock = some b → W'.heap[b]? = W.heap[b]?) : W'.ownsRow 0 40 1 v n xs := by
  refine ⟨h.1, ?_⟩
  rcases h.2 with ⟨h1, h2⟩ | ⟨g, cap, cur, rfl, h1, hg, h2⟩
  · exact .inl ⟨h1, h2⟩
  · exact .inr ⟨g, cap, cur, rfl, h1, (hs g rfl).trans hg, h2⟩
/-- a row's first m cells -/
theorem own_take {W : World} {oa : Option Addr} {n m cap : Nat} {xs : List Value} (h : W.ownsRow 0 40 1 (.slice oa n cap) n xs) (hm : m ≤ n) : W.ownsRow 0 40 1 (.slice oa m cap) m (xs.take m) := by
  have hl := h.1
  refine ⟨by rw [List.length_take]; omega, ?_⟩
  rcases h.2 with ⟨h1, h2⟩ | ⟨g, cap', cur, h0, h1, hg, h2, h3, h4, h5⟩
  · left
    simp at h1
    obtain ⟨rfl, rfl, rfl⟩ := h1
    have : m = 0 := by omega
    subst this
    simp
  · right
    simp at h0
    obtain ⟨rfl, rfl⟩ := h0
    refine ⟨g, cap, cur, rfl, h1, hg, by omega, h3, h4, ?_⟩
    rw [← h5, List.take_take]
    congr 1
    omega

section
variable {W W' : World} {F : Nat → Prop} {rows : Rid → Value} {vals : Rid → List Value}
theorem Sep.lt (h : Sep W F rows vals) {r : Rid} {b : Nat} (hb : (rows r).ownBlock = some b) : b < W.heap.size := own_lt (h.own r) hb
/-- the blocks outside F stay -/
theorem Sep.keep (h : Sep W F rows vals) (hs : W.heap.size ≤ W'.heap.size) (hk : ∀ b, ¬ F b → b < W.heap.size → W'.heap[b]? = W.heap[b]?) : Sep W' F rows vals :=
  ⟨fun r => own_same (h.own r) fun b hb => hk b (h.free r b hb) (h.lt hb), h.apart, h.free, fun b hb => Nat.lt_of_lt_of_le (h.old b hb) hs⟩
theorem Sep.set (h : Sep W F rows vals) {a : Addr} (ha : F a.block) (v : Value) : Sep (W.setCell a v) F rows vals :=
  h.keep (by simp) fun b hb _ => Below.heap_setCell W a v b fun e => hb (e ▸ ha)
theorem Sep.alloc (h : Sep W F rows vals) (o : Obj) : Sep (W.alloc o) F rows vals :=
  h.keep (by simp) fun b _ hl => Below.heap_alloc _ _ _ hl
/-- a new block among those of F -/
theorem Sep.more (h : Sep W F rows vals) (o : Obj) : Sep (W.alloc o) (fun b => F b ∨ b = W.heap.size) rows vals :=
  ⟨(h.alloc o).own, h.apart, fun r b hb hf => by
    rcases hf with hf | rfl
    · exact h.free r b hb hf
    · exact absurd (h.lt hb) (Nat.lt_irrefl _), fun b hb => by
    rcases hb with hb | rfl
    · exact (h.alloc o).old b hb
    · simp⟩
theorem Sep.weak (h : Sep W F rows vals) {G : Nat → Prop} (hg : ∀ b, G b → F b) : Sep W G rows vals :=
  ⟨h.own, h.apart, fun r b hb hf => h.free r b hb (hg b hf), fun b hb => h.old b (hg b hb)⟩
theorem Sep.drew (h : Sep W F rows vals) : Sep W.drew F rows vals := h.keep (Nat.le_refl _) fun _ _ _ => rfl
/-- one row turned to another -/
theorem Sep.turn (h : Sep W F rows vals) (r : Rid) {v' : Value} {xs : List Value} (hown : W'.ownsRow 0 40 1 v' xs.length xs) (hs : W.heap.size ≤ W'.heap.size)
    (hk : ∀ b, b < W.heap.size → some b ≠ (rows r).ownBlock → W'.heap[b]? = W.heap[b]?) (hat : ∀ g, v'.ownBlock = some g → (rows r).ownBlock = some g ∨ W.heap.size ≤ g) :
    Sep W' F (upr rows r v') (upr vals r xs) ∧ ∀ b, F b → W'.heap[b]? = W.heap[b]? := by
  refine ⟨⟨fun s => ?_, fun s t b hs1 ht1 => ?_, fun s b hb => ?_, fun b hb => Nat.lt_of_lt_of_le (h.old b hb) hs⟩, fun b hb => hk b (h.old b hb) fun e => h.free r b e.symm hb⟩
  · by_cases e : s = r
    · subst e; rw [upr_same, upr_same]; exact hown
    · rw [upr_other _ _ e, upr_other _ _ e]
      exact own_same (h.own s) fun b hb => hk b (h.lt hb) fun e2 => e (h.apart s r b hb e2.symm)
  · by_cases e : s = r
    · by_cases e2 : t = r
      · exact e.trans e2.symm
      · subst e
        rw [upr_same] at hs1
        rw [upr_other _ _ e2] at ht1
        rcases hat b hs1 with h1 | h1
        · exact absurd (h.apart t s b ht1 h1) e2
        · exact absurd (h.lt ht1) (by omega)
    · by_cases e2 : t = r
      · subst e2
        rw [upr_same] at ht1
        rw [upr_other _ _ e] at hs1
        rcases hat b ht1 with h1 | h1
        · exact absurd (h.apart s t b hs1 h1) e
        · exact absurd (h.lt hs1) (by omega)
      · rw [upr_other _ _ e] at hs1
        rw [upr_other _ _ e2] at ht1
        exact h.apart s t b hs1 ht1
  · by_cases e : s = r
    · subst e
      rw [upr_same] at hb
      rcases hat b hb with h1 | h1
      · exact h.free s b h1
      · intro hf
        exact absurd (h.old b hf) (by omega)
    · rw [upr_other _ _ e] at hb
      exact h.free s b hb
/-- a row has grown by an append, of an element that lay in a block of its own -/
theorem Sep.grow (h : Sep W F rows vals) (r : Rid) {g n cap : Nat} {xs : List Value} (hn : n = xs.length) (hown : W'.ownsRow 0 40 1 (.slice (some ⟨g, 0, none⟩) n cap) n xs) (hg : W.grownBy W' (rows r).ownBlock) (hat : (rows r).ownBlock = some g ∨ g = W.heap.size) :
    Sep W' F (upr rows r (.slice (some ⟨g, 0, none⟩) n cap)) (upr vals r xs) ∧ ∀ b, F b → W'.heap[b]? = W.heap[b]? := by
  subst hn
  refine h.turn r hown hg.size hg.block fun b hb => ?_
  simp [Value.ownBlock] at hb
  subst hb
  rcases hat with h1 | h1
  · exact .inl h1
  · exact .inr (by omega)
/-- rows that are the same at the names that matter -/
theorem Sep.congr (h : Sep W F rows vals) {rows' : Rid → Value} {vals' : Rid → List Value} (e : rows = rows') (e2 : vals = vals') : Sep W F rows' vals' := by subst e e2; exact h
end

/-- the cells of a node -/
def ncell (o : Value) (inn st : Nat) (seen aim : Bool) : Array Value := #[o, .int .i64 (inn : Int), .int .u8 (st : Int), .int .u64 (if seen then 1 else 0), .int .u64 (if aim then 1 else 0)]
/-- the pointer to node i -/
def np (na : Nat → Nat) (i : Nat) : Value := .pointer (some ⟨na i, 0, none⟩)

/-- node i lies in block na i -/
structure Nodes (W : World) (na : Nat → Nat) (N : Nat) (ov : Nat → Value) (inn st : Nat → Nat) (seen aim : Nat → Bool) : Prop where
  blk : ∀ i, i < N → Blk W (na i) (ncell (ov i) (inn i) (st i) (seen i) (aim i)) 43
  inj : ∀ i j, i < N → j < N → na i = na j → i = j

section
variable {W W' : World} {na : Nat → Nat} {N : Nat} {ov : Nat → Value} {inn st : Nat → Nat} {seen aim : Nat → Bool}
theorem Nodes.same (h : Nodes W na N ov inn st seen aim) (hs : ∀ i, i < N → W'.heap[na i]? = W.heap[na i]?) : Nodes W' na N ov inn st seen aim :=
  ⟨fun i hi => (hs i hi).trans (h.blk i hi), h.inj⟩
theorem Nodes.other (h : Nodes W na N ov inn st seen aim) {a : Addr} (ha : ∀ i, i < N → na i ≠ a.block) (v : Value) : Nodes (W.setCell a v) na N ov inn st seen aim :=
  h.same fun i hi => Below.heap_setCell W a v _ (ha i hi)
theorem Nodes.alloc (h : Nodes W na N ov inn st seen aim) (o : Obj) : Nodes (W.alloc o) na N ov inn st seen aim :=
  h.same fun i hi => Below.heap_alloc _ _ _ (h.blk i hi).lt
theorem Nodes.drew (h : Nodes W na N ov inn st seen aim) : Nodes W.drew na N ov inn st seen aim := h.same fun _ _ => rfl
theorem Nodes.setOut (h : Nodes W na N ov inn st seen aim) {i : Nat} (hi : i < N) (v : Value) : Nodes (W.setCell ⟨na i, 0, none⟩ v) na N (up ov i v) inn st seen aim := by
  refine ⟨fun j hj => ?_, h.inj⟩
  by_cases e : j = i
  · subst e; rw [up_same]; exact (h.blk j hj).set 0 v
  · rw [up_other _ _ e]; exact (h.blk j hj).other (fun e2 => e (h.inj j i hj hi e2)) v
theorem Nodes.setIn (h : Nodes W na N ov inn st seen aim) {i : Nat} (hi : i < N) (n : Nat) : Nodes (W.setCell ⟨na i, 1, none⟩ (.int .i64 (n : Int))) na N ov (up inn i n) st seen aim := by
  refine ⟨fun j hj => ?_, h.inj⟩
  by_cases e : j = i
  · subst e; rw [up_same]; exact (h.blk j hj).set 1 _
  · rw [up_other _ _ e]; exact (h.blk j hj).other (fun e2 => e (h.inj j i hj hi e2)) _
theorem Nodes.setSeen (h : Nodes W na N ov inn st seen aim) {i : Nat} (hi : i < N) : Nodes (W.setCell ⟨na i, 3, none⟩ (.int .u64 1)) na N ov inn st (up seen i true) aim := by
  refine ⟨fun j hj => ?_, h.inj⟩
  by_cases e : j = i
  · subst e; rw [up_same]; exact (h.blk j hj).set 3 _
  · rw [up_other _ _ e]; exact (h.blk j hj).other (fun e2 => e (h.inj j i hj hi e2)) _
theorem Nodes.setAim (h : Nodes W na N ov inn st seen aim) {i : Nat} (hi : i < N) : Nodes (W.setCell ⟨na i, 4, none⟩ (.int .u64 1)) na N ov inn st seen (up aim i true) := by
  refine ⟨fun j hj => ?_, h.inj⟩
  by_cases e : j = i
  · subst e; rw [up_same]; exact (h.blk j hj).set 4 _
  · rw [up_other _ _ e]; exact (h.blk j hj).other (fun e2 => e (h.inj j i hj hi e2)) _
theorem Nodes.c0 (h : Nodes W na N ov inn st seen aim) {i : Nat} (hi : i < N) : W.cell? ⟨na i, 0, none⟩ = some (ov i) := (h.blk i hi).cell 0 _ rfl
theorem Nodes.c1 (h : Nodes W na N ov inn st seen aim) {i : Nat} (hi : i < N) : W.cell? ⟨na i, 1, none⟩ = some (.int .i64 (inn i : Int)) := (h.blk i hi).cell 1 _ rfl
theorem Nodes.c2 (h : Nodes W na N ov inn st seen aim) {i : Nat} (hi : i < N) : W.cell? ⟨na i, 2, none⟩ = some (.int .u8 (st i : Int)) := (h.blk i hi).cell 2 _ rfl
theorem Nodes.c3 (h : Nodes W na N ov inn st seen aim) {i : Nat} (hi : i < N) : W.cell? ⟨na i, 3, none⟩ = some (.int .u64 (if seen i then 1 else 0)) := (h.blk i hi).cell 3 _ rfl
theorem Nodes.c4 (h : Nodes W na N ov inn st seen aim) {i : Nat} (hi : i < N) : W.cell? ⟨na i, 4, none⟩ = some (.int .u64 (if aim i then 1 else 0)) := (h.blk i hi).cell 4 _ rfl
theorem Nodes.fz (h : Nodes W na N ov inn st seen aim) {i : Nat} (hi : i < N) (j : Nat) : W.frozen? ⟨na i, j, none⟩ = false := (h.blk i hi).frozen j
end

/-- the graph's memory: the nodes, whose rows of edges lie apart; all nodes are among the blocks of F -/
structure Gr (W : World) (F : Nat → Prop) (na : Nat → Nat) (N : Nat) (rows : Rid → Value) (vals : Rid → List Value) (inn st : Nat → Nat) (seen aim : Nat → Bool) : Prop where
  sep : Sep W F rows vals
  nodes : Nodes W na N (fun i => rows (ro i)) inn st seen aim
  inF : ∀ i, i < N → F (na i)

section
variable {W W' : World} {F : Nat → Prop} {na : Nat → Nat} {N : Nat} {rows : Rid → Value} {vals : Rid → List Value} {inn st : Nat → Nat} {seen aim : Nat → Bool}
theorem Gr.other (h : Gr W F na N rows vals inn st seen aim) {a : Addr} (hf : F a.block) (ha : ∀ i, i < N → na i ≠ a.block) (v : Value) : Gr (W.setCell a v) F na N rows vals inn st seen aim :=
  ⟨h.sep.set hf v, h.nodes.other ha v, h.inF⟩
theorem Gr.alloc (h : Gr W F na N rows vals inn st seen aim) (o : Obj) : Gr (W.alloc o) F na N rows vals inn st seen aim := ⟨h.sep.alloc o, h.nodes.alloc o, h.inF⟩
theorem Gr.more (h : Gr W F na N rows vals inn st seen aim) (o : Obj) : Gr (W.alloc o) (fun b => F b ∨ b = W.heap.size) na N rows vals inn st seen aim := ⟨h.sep.more o, h.nodes.alloc o, fun i hi => .inl (h.inF i hi)⟩
theorem Gr.weak (h : Gr W F na N rows vals inn st seen aim) {G : Nat → Prop} (hg : ∀ b, G b → F b) (hn : ∀ i, i < N → G (na i)) : Gr W G na N rows vals inn st seen aim := ⟨h.sep.weak hg, h.nodes, hn⟩
theorem Gr.drew (h : Gr W F na N rows vals inn st seen aim) : Gr W.drew F na N rows vals inn st seen aim := ⟨h.sep.drew, h.nodes.drew, h.inF⟩
theorem Gr.setSeen (h : Gr W F na N rows vals inn st seen aim) {i : Nat} (hi : i < N) : Gr (W.setCell ⟨na i, 3, none⟩ (.int .u64 1)) F na N rows vals inn st (up seen i true) aim := ⟨h.sep.set (h.inF i hi) _, h.nodes.setSeen hi, h.inF⟩
theorem Gr.setAim (h : Gr W F na N rows vals inn st seen aim) {i : Nat} (hi : i < N) : Gr (W.setCell ⟨na i, 4, none⟩ (.int .u64 1)) F na N rows vals inn st seen (up aim i true) := ⟨h.sep.set (h.inF i hi) _, h.nodes.setAim hi, h.inF⟩
theorem Gr.setIn (h : Gr W F na N rows vals inn st seen aim) {i : Nat} (hi : i < N) (n : Nat) : Gr (W.setCell ⟨na i, 1, none⟩ (.int .i64 (n : Int))) F na N rows vals (up inn i n) st seen aim := ⟨h.sep.set (h.inF i hi) _, h.nodes.setIn hi n, h.inF⟩
/-- a row that is no node's has turned -/
theorem Gr.turn (h : Gr W F na N rows vals inn st seen aim) {r : Rid} (hr : r.1 ≠ 0) {v' : Value} {xs : List Value} (hs : Sep W' F (upr rows r v') (upr vals r xs)) (hk : ∀ b, F b → W'.heap[b]? = W.heap[b]?) : Gr W' F na N (upr rows r v') (upr vals r xs) inn st seen aim := by
  have e : (fun i => upr rows r v' (ro i)) = fun i => rows (ro i) := funext fun i => upr_other _ _ fun e => hr (by rw [← e])
  exact ⟨hs, by rw [e]; exact h.nodes.same fun i hi => hk _ (h.inF i hi), h.inF⟩
/-- the row of node i has turned, and the node holds the new one -/
theorem Gr.setOut (h : Gr W F na N rows vals inn st seen aim) {i : Nat} (hi : i < N) {v' : Value} {xs : List Value} (hs : Sep W' F (upr rows (ro i) v') (upr vals (ro i) xs)) (hk : ∀ b, F b → W'.heap[b]? = W.heap[b]?) :
    Gr (W'.setCell ⟨na i, 0, none⟩ v') F na N (upr rows (ro i) v') (upr vals (ro i) xs) inn st seen aim := by
  have e : (fun j => upr rows (ro i) v' (ro j)) = up (fun j => rows (ro j)) i v' := funext fun j => by simp [upr, up]
  exact ⟨hs.set (h.inF i hi) _, by rw [e]; exact (h.nodes.same fun i hi => hk _ (h.inF i hi)).setOut hi v', h.inF⟩
end
end Go.Proofs.Ybulkboaa.BMem
