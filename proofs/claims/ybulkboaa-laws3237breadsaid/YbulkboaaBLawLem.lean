import Derived.Test.YbulkboaaBLawMem
import Derived.Test.YbulkboaaBBreach2
import Derived.Test.YbulkboaaBRead2
namespace Go.Proofs.Ybulkboaa.BLawLem
open Go.RowKit MapLaw CBase BPlain BBreach BBreach2 BMem BLink BLawMem BFollow BReach BReach2 BMap BRead BRead2
set_option linter.unusedVariables false
set_option maxRecDepth 100000

/-- the number of a node, or -1 -/
def oi : Option Nat → Int
  | none => -1
  | some x => (x : Int)
theorem oi_none : oi none = -1 := rfl
theorem oi_some (x : Nat) : oi (some x) = (x : Int) := rfl
theorem sel (x K : Nat) : ∃ m : Nat, ((x : Int)).tmod ((K : Int) + 1) = (m : Int) ∧ m ≤ K := by
  refine ⟨x % (K + 1), ?_, Nat.le_of_lt_succ (Nat.mod_lt x (Nat.succ_pos K))⟩
  have := Int.ofNat_tmod x (K + 1)
  simpa using this.symm
theorem pickN (m K : Nat) (h : m ≤ K) : ∃ o : Option Nat, (o = some m ∧ m < K) ∨ (o = none ∧ m = K) := by
  by_cases e : m = K
  · exact ⟨none, .inr ⟨rfl, e⟩⟩
  · exact ⟨some m, .inl ⟨rfl, by omega⟩⟩
theorem pickW (m K : Nat) (he : Bool) (h : m ≤ K) : ∃ o : Option Nat, (o = some m ∧ he = true ∧ m < K) ∨ (o = none ∧ (he = false ∨ m = K)) := by
  cases he with
  | false => exact ⟨none, .inr ⟨rfl, .inl rfl⟩⟩
  | true =>
    by_cases e : m = K
    · exact ⟨none, .inr ⟨rfl, .inr e⟩⟩
    · exact ⟨some m, .inl ⟨rfl, rfl, by omega⟩⟩

/-- the graph, as a later world has it: every block that was made since is among those of F -/
theorem Gr.later {W W' : World} {F : Nat → Prop} {na : Nat → Nat} {N : Nat} {rows : Rid → Value} {vals : Rid → List Value} {inn st : Nat → Nat} {seen aim : Nat → Bool} (h : Gr W F na N rows vals inn st seen aim) (hk : Still (fun b => b < W.heap.size) W W') :
    Gr W' (fun b => F b ∨ (W.heap.size ≤ b ∧ b < W'.heap.size)) na N rows vals inn st seen aim := by
  refine ⟨⟨fun r => own_same (h.sep.own r) fun b hb => hk.block b (h.sep.lt hb), h.sep.apart, fun r b hb hf => ?_, fun b hb => ?_⟩, h.nodes.same fun i hi => hk.block _ (h.nodes.blk i hi).lt, fun i hi => .inl (h.inF i hi)⟩
  · have := h.sep.lt hb
    rcases hf with hf | hf
    · exact h.sep.free r b hb hf
    · omega
  · rcases hb with hb | hb
    · exact Nat.lt_of_lt_of_le (h.sep.old b hb) hk.size
    · exact hb.2
theorem run_makeMapS (t : TypeId) (W : World) : (Instr.makeMap t none).run Yba.prog W = .ok (.map (some W.heap.size)) (W.alloc (.map #[] 0)) := by
  simp [Instr.makeMap]

/-- what lies behind the old blocks: the policy, its maps, the entry -/
structure PE (w0 wx : World) (S0 : Nat) (s : ByteArray) (he rd : Bool) (wv : Value) (eb : Nat) (rdv : Value) (ra_ : Option Addr) (rc ci : Nat) (vo : Option Value) (cp : Nat) : Prop where
  hr : rdv = .slice ra_ (if rd then 1 else 0) rc
  be : he = true → S0 + 1 + 1 < eb ∧ eb < wx.heap.size ∧ Blk wx eb #[wv, rdv] 64
  hmi : wx.heap[S0]? = some (.map (me s (if he then some (ep eb true) else none)) ci)
  hmp : wx.heap[S0 + 1]? = some (.map (me s vo) cp)
  bp : Blk wx (S0 + 1 + 1) (pc 0 S0 (S0 + 1) 0 (.slice none 0 0)) 61
  st : Still (fun b => b < S0) w0 wx
  sz : S0 + 1 + 1 < wx.heap.size

structure P6 (W5 W6 : World) (S0 : Nat) (s : ByteArray) : Prop where
  mi : W6.heap[S0]? = some (.map (me s none) 0)
  mp : W6.heap[S0 + 1]? = some (.map (me s none) 0)
  bp : Blk W6 (S0 + 1 + 1) (pc 0 S0 (S0 + 1) 0 (.slice none 0 0)) 61
  st : Still (fun b => b < S0) W5 W6
  sz : W6.heap.size = S0 + 1 + 1 + 1
theorem setBlock_at {W : World} {r b : Nat} {o : Obj} (hb : b ≠ r) : (ChangeMaps.setBlock W r o).heap[b]? = W.heap[b]? := by
  unfold ChangeMaps.setBlock
  simp only
  rw [Array.getElem?_setIfInBounds_ne (fun e => hb e.symm)]
theorem setBlock_new {W : World} {r : Nat} {o : Obj} (h : r < W.heap.size) : (ChangeMaps.setBlock W r o).heap[r]? = some o := by
  simp [ChangeMaps.setBlock, h]
/-- the entry is laid into the map -/
theorem PE.laid {W5 W7 : World} {S0 : Nat} {s : ByteArray} {rd : Bool} {wv rdv : Value} {ra_ : Option Addr} {rc : Nat} (hmi : W7.heap[S0]? = some (.map (me s none) 0)) (hmp : W7.heap[S0 + 1]? = some (.map (me s none) 0)) (bp : Blk W7 (S0 + 1 + 1) (pc 0 S0 (S0 + 1) 0 (.slice none 0 0)) 61) (st : Still (fun b => b < S0) W5 W7)
    (be : Blk W7 (S0 + 1 + 1 + 1) #[wv, rdv] 64) (hr : rdv = .slice ra_ (if rd then 1 else 0) rc) :
    PE W5 (ChangeMaps.setBlock W7 S0 (.map (me s (some (.pointer (some ⟨S0 + 1 + 1 + 1, 0, none⟩)))) 1)) S0 s true rd wv (S0 + 1 + 1 + 1) rdv ra_ rc 1 none 0 := by
  have hl := be.lt
  refine ⟨hr, fun _ => ⟨by omega, ?_, (setBlock_at (by omega)).trans be⟩, setBlock_new (by omega), (setBlock_at (by omega)).trans hmp, (setBlock_at (by omega)).trans bp, st.map (by omega) _, ?_⟩
  · show _ < (W7.heap.setIfInBounds S0 _).size
    simp; omega
  · show _ < (W7.heap.setIfInBounds S0 _).size
    simp; omega
theorem made0 {W5 W6 : World} {S0 : Nat} {s : ByteArray} (h : P6 W5 W6 S0 s) (wv : Value) :
    (W6.alloc (.cells #[wv, .slice none 0 0] 64)).cell? ⟨S0 + 1 + 1, 2, none⟩ = some (.map (some S0)) ∧
    (Instr.mapUpdate 48 (.map (some S0)) (.string s) (.pointer (some ⟨S0 + 1 + 1 + 1, 0, none⟩))).run Yba.prog (W6.alloc (.cells #[wv, .slice none 0 0] 64)) = .ok () (ChangeMaps.setBlock (W6.alloc (.cells #[wv, .slice none 0 0] 64)) S0 (.map (me s (some (.pointer (some ⟨S0 + 1 + 1 + 1, 0, none⟩)))) 1)) ∧
    PE W5 (ChangeMaps.setBlock (W6.alloc (.cells #[wv, .slice none 0 0] 64)) S0 (.map (me s (some (.pointer (some ⟨S0 + 1 + 1 + 1, 0, none⟩)))) 1)) S0 s true false wv (S0 + 1 + 1 + 1) (.slice none 0 0) none 0 1 none 0 := by
  have hs := h.sz
  have hmi := (Below.heap_alloc W6 (.cells #[wv, .slice none 0 0] 64) S0 (by omega)).trans h.mi
  refine ⟨(h.bp.alloc _).cell 2 _ rfl, updS Yba.underlying48 hmi _, PE.laid hmi ((Below.heap_alloc _ _ _ (by omega)).trans h.mp) (h.bp.alloc _) ?_ (Blk.new' _ _ _ _ hs.symm) rfl⟩
  exact h.st.trans ⟨rfl, rfl, rfl, by simp, fun b hb => Below.heap_alloc _ _ _ (by omega)⟩
theorem made1 {W5 W6 : World} {S0 nb : Nat} {s : ByteArray} (h : P6 W5 W6 S0 s) (wv x c : Value) (hn : nb < S0) (c0 : W6.cell? ⟨nb, 0, none⟩ = some c) :
    (W6.alloc (.cells #[wv, .slice none 0 0] 64)).cell? ⟨nb, 0, none⟩ = some c ∧
    ((W6.alloc (.cells #[wv, .slice (some ⟨S0 + 1 + 1 + 1 + 1, 0, none⟩) 1 1] 64)).alloc (.cells #[x] 40)).cell? ⟨S0 + 1 + 1, 2, none⟩ = some (.map (some S0)) ∧
    (Instr.mapUpdate 48 (.map (some S0)) (.string s) (.pointer (some ⟨S0 + 1 + 1 + 1, 0, none⟩))).run Yba.prog ((W6.alloc (.cells #[wv, .slice (some ⟨S0 + 1 + 1 + 1 + 1, 0, none⟩) 1 1] 64)).alloc (.cells #[x] 40)) = .ok () (ChangeMaps.setBlock ((W6.alloc (.cells #[wv, .slice (some ⟨S0 + 1 + 1 + 1 + 1, 0, none⟩) 1 1] 64)).alloc (.cells #[x] 40)) S0 (.map (me s (some (.pointer (some ⟨S0 + 1 + 1 + 1, 0, none⟩)))) 1)) ∧
    PE W5 (ChangeMaps.setBlock ((W6.alloc (.cells #[wv, .slice (some ⟨S0 + 1 + 1 + 1 + 1, 0, none⟩) 1 1] 64)).alloc (.cells #[x] 40)) S0 (.map (me s (some (.pointer (some ⟨S0 + 1 + 1 + 1, 0, none⟩)))) 1)) S0 s true true wv (S0 + 1 + 1 + 1) (.slice (some ⟨S0 + 1 + 1 + 1 + 1, 0, none⟩) 1 1) (some ⟨S0 + 1 + 1 + 1 + 1, 0, none⟩) 1 1 none 0 := by
  have hs := h.sz
  have b1 : Blk (W6.alloc (.cells #[wv, .slice (some ⟨S0 + 1 + 1 + 1 + 1, 0, none⟩) 1 1] 64)) (S0 + 1 + 1 + 1) #[wv, .slice (some ⟨S0 + 1 + 1 + 1 + 1, 0, none⟩) 1 1] 64 := Blk.new' _ _ _ _ hs.symm
  have b2 := b1.alloc (.cells #[x] 40)
  have hk : ∀ b, b < S0 + 1 + 1 + 1 → ((W6.alloc (.cells #[wv, .slice (some ⟨S0 + 1 + 1 + 1 + 1, 0, none⟩) 1 1] 64)).alloc (.cells #[x] 40)).heap[b]? = W6.heap[b]? := fun b hb => by
    rw [Below.heap_alloc _ _ _ (by simp; omega), Below.heap_alloc _ _ _ (by omega)]
  have bp : Blk ((W6.alloc (.cells #[wv, .slice (some ⟨S0 + 1 + 1 + 1 + 1, 0, none⟩) 1 1] 64)).alloc (.cells #[x] 40)) (S0 + 1 + 1) (pc 0 S0 (S0 + 1) 0 (.slice none 0 0)) 61 := (hk _ (by omega)).trans h.bp
  have hmi := (hk S0 (by omega)).trans h.mi
  refine ⟨(World.cell?_of_block (Below.heap_alloc _ _ _ (by simp; omega))).trans c0, bp.cell 2 _ rfl, updS Yba.underlying48 hmi _, PE.laid hmi ((hk _ (by omega)).trans h.mp) bp ?_ b2 rfl⟩
  exact h.st.trans ⟨rfl, rfl, rfl, by simp; omega, fun b hb => hk b (by omega)⟩

theorem PE.later {w0 wx wy : World} {S0 : Nat} {s : ByteArray} {he rd : Bool} {wv : Value} {eb : Nat} {rdv : Value} {ra_ : Option Addr} {rc ci : Nat} {vo : Option Value} {cp : Nat} (h : PE w0 wx S0 s he rd wv eb rdv ra_ rc ci vo cp) (hk : Still (fun b => b < wx.heap.size) wx wy) (hs : S0 ≤ wx.heap.size) : PE w0 wy S0 s he rd wv eb rdv ra_ rc ci vo cp := by
  have hz := h.sz
  exact ⟨h.hr, fun q => ⟨(h.be q).1, Nat.lt_of_lt_of_le (h.be q).2.1 hk.size, (hk.block _ (h.be q).2.1).trans (h.be q).2.2⟩, (hk.block _ (by omega)).trans h.hmi, (hk.block _ (by omega)).trans h.hmp, (hk.block _ (by omega)).trans h.bp, h.st.trans (hk.weak fun b hb => by omega), by have := hk.size; omega⟩
theorem PE.prep {w0 wx : World} {S0 : Nat} {s : ByteArray} {he rd : Bool} {wv : Value} {eb : Nat} {rdv : Value} {ra_ : Option Addr} {rc ci : Nat} (h : PE w0 wx S0 s he rd wv eb rdv ra_ rc ci none 0) (v : Value) :
    PE w0 (ChangeMaps.setBlock wx (S0 + 1) (.map (me s (some v)) 1)) S0 s he rd wv eb rdv ra_ rc ci (some v) 1 := by
  have hz := h.sz
  have hsz : (ChangeMaps.setBlock wx (S0 + 1) (.map (me s (some v)) 1)).heap.size = wx.heap.size := by simp [ChangeMaps.setBlock]
  exact ⟨h.hr, fun q => ⟨(h.be q).1, by rw [hsz]; exact (h.be q).2.1, (setBlock_at (by have := (h.be q).1; omega)).trans (h.be q).2.2⟩, (setBlock_at (by omega)).trans h.hmi, setBlock_new (by omega), (setBlock_at (by omega)).trans h.bp, h.st.map (by omega) _, by rw [hsz]; exact hz⟩

theorem PE.node {w0 wx : World} {S0 tb : Nat} {s : ByteArray} {he rd : Bool} {wv : Value} {eb : Nat} {rdv : Value} {ra_ : Option Addr} {rc ci : Nat} {vo : Option Value} {cp : Nat} (h : PE w0 wx S0 s he rd wv eb rdv ra_ rc ci vo cp) (hb : Blk wx tb (tc (.pointer none)) 86) (o : S0 + 1 + 1 < tb) (oe : he = true → eb < tb) (sz : wx.heap.size = tb + 1) (v : Value) :
    PE w0 (wx.setCell ⟨tb, 12, none⟩ v) S0 s he rd wv eb rdv ra_ rc ci vo cp ∧ Blk (wx.setCell ⟨tb, 12, none⟩ v) tb (tc v) 86 ∧ (wx.setCell ⟨tb, 12, none⟩ v).heap.size = tb + 1 := by
  refine ⟨⟨h.hr, fun q => ⟨(h.be q).1, by simp; exact (h.be q).2.1, (h.be q).2.2.other (by have := oe q; simp; omega) _⟩, (Below.heap_setCell _ _ _ _ (by simp; omega)).trans h.hmi, (Below.heap_setCell _ _ _ _ (by simp; omega)).trans h.hmp, h.bp.other (by simp; omega) _, h.st.set (by simp; omega) _, by simp; exact h.sz⟩, hb.set 12 _, by simp [sz]⟩

/-- .. and the transaction, the item -/
structure QS (w0 wx : World) (S0 : Nat) (s : ByteArray) (he rd : Bool) (wv : Value) (eb : Nat) (rdv : Value) (ra_ : Option Addr) (rc ci : Nat) (vo : Option Value) (cp tb : Nat) (tv : Value) (fl : Nat) : Prop where
  pe : PE w0 wx S0 s he rd wv eb rdv ra_ rc ci vo cp
  bt : Blk wx tb (tc tv) 86
  bi : Blk wx (tb + 1) (ic s fl) 97
  o1 : S0 + 1 + 1 < tb
  o2 : he = true → eb < tb
  sz : tb + 2 ≤ wx.heap.size
theorem QS.start {w0 wx : World} {S0 : Nat} {s : ByteArray} {he rd : Bool} {wv : Value} {eb : Nat} {rdv : Value} {ra_ : Option Addr} {rc ci : Nat} {vo : Option Value} {cp tb : Nat} {tv : Value} {fl : Nat} (pe : PE w0 wx S0 s he rd wv eb rdv ra_ rc ci vo cp) (bt : Blk wx tb (tc tv) 86) (o : S0 + 1 + 1 < tb ∧ (he = true → eb < tb)) (sz : wx.heap.size = tb + 1) :
    QS w0 (wx.alloc (.cells (ic s fl) 97)) S0 s he rd wv eb rdv ra_ rc ci vo cp tb tv fl :=
  ⟨pe.later ⟨rfl, rfl, rfl, by simp, fun b hb => Below.heap_alloc _ _ _ hb⟩ (by have := o.1; omega), bt.alloc _, Blk.new' _ _ _ _ sz.symm, o.1, o.2, by simp; omega⟩
theorem QS.later {w0 wx wy : World} {S0 : Nat} {s : ByteArray} {he rd : Bool} {wv : Value} {eb : Nat} {rdv : Value} {ra_ : Option Addr} {rc ci : Nat} {vo : Option Value} {cp tb : Nat} {tv : Value} {fl : Nat} (h : QS w0 wx S0 s he rd wv eb rdv ra_ rc ci vo cp tb tv fl) (hk : Still (fun b => b < wx.heap.size) wx wy) : QS w0 wy S0 s he rd wv eb rdv ra_ rc ci vo cp tb tv fl := by
  have hz := h.sz
  have ho := h.o1
  exact ⟨h.pe.later hk (by omega), (hk.block _ (by omega)).trans h.bt, (hk.block _ (by omega)).trans h.bi, h.o1, h.o2, Nat.le_trans hz hk.size⟩
theorem gone_eq (st : Nat → Nat) (x : Nat) : ((st x : Int) == 2) = decide (st x = 2) := by
  by_cases e : st x = 2
  · simp [e]
  · have e2 : ((st x : Int) == 2) = false := by simp; omega
    simp [e, e2]

/-- the edges' row, as a later world reads it -/
theorem row_later {w wx : World} {a : Option Addr} {len nb : Nat} {zs : List Nat} (hnb : nb = w.heap.size) (h : ∀ i, i < len → ∃ x, a = some x ∧ w.cell? (x.add i) = some (.int .u16 ((zs.getD i 0 : Nat) : Int))) (hb : Below nb w wx) : ∀ i, i < len → ∃ x, a = some x ∧ wx.cell? (x.add i) = some (.int .u16 ((zs.getD i 0 : Nat) : Int)) := fun i hi => by
  obtain ⟨x, h1, h2⟩ := h i hi
  exact ⟨x, h1, (hb.cell (by rw [hnb]; exact World.block_lt_of_cell? w _ h2)).trans h2⟩
/-- the marks of what is looked for -/
structure AM (w0 wx : World) (S1 K : Nat) (f : Nat → Bool) : Prop where
  tab : Tab wx S1 4 K (fun x => .bool (f x))
  st : Still (fun b => b < S1) w0 wx
theorem AM.set {w0 wx : World} {S1 K : Nat} {f : Nat → Bool} (h : AM w0 wx S1 K f) (x : Nat) : AM w0 (wx.setCell ⟨S1, x, none⟩ (.bool true)) S1 K (up f x true) := by
  refine ⟨(h.tab.set x (.bool true)).congr fun j hj => ?_, h.st.set (by simp) _⟩
  by_cases e : j = x
  · subst e; simp
  · rw [up_other _ _ e, up_other _ _ e]
theorem AM.congr {w0 wx : World} {S1 K : Nat} {f g : Nat → Bool} (h : AM w0 wx S1 K f) (e : f = g) : AM w0 wx S1 K g := by subst e; exact h
theorem AM.later {w0 wx wy : World} {S1 K : Nat} {f : Nat → Bool} (h : AM w0 wx S1 K f) (hb : Below wx.heap.size wx wy) : AM w0 wy S1 K f :=
  ⟨h.tab.same (hb.block _ h.tab.lt), h.st.trans ⟨hb.os, hb.tape, hb.output, hb.size, fun b hb' => hb.block b (by have := h.tab.lt; omega)⟩⟩

theorem andNot2 : ∀ e : Fin 256, bits BinOp.andNot IntKind.u8 ((e.val : Nat) : Int) 2 = ((if 2 ≤ e.val % 4 then e.val - 2 else e.val : Nat) : Int) := by decide +kernel
theorem edges_lt {K : Nat} (hK : 0 < K) (zs : List Nat) : ∀ e ∈ edgesOf K zs, e.1 < K ∧ e.2 < K := fun e he => by
  unfold edgesOf at he
  obtain ⟨z, _, rfl⟩ := List.mem_map.1 he
  exact ⟨Nat.mod_lt _ hK, Nat.mod_lt _ hK⟩
theorem outs_big {E : List (Nat × Nat)} {K : Nat} (h : ∀ e ∈ E, e.1 < K ∧ e.2 < K) : outs E K = [] := by
  unfold outs
  rw [List.map_eq_nil_iff, List.filter_eq_nil_iff]
  intro e he
  have := h e he
  simp
  omega
theorem ins_big {E : List (Nat × Nat)} {K : Nat} (h : ∀ e ∈ E, e.1 < K ∧ e.2 < K) : ins E K = 0 := by
  unfold ins
  rw [List.length_eq_zero_iff, List.filter_eq_nil_iff]
  intro e he
  have := h e he
  simp
  omega

/-- all that read asks -/
theorem pre_of {w W5 W12 wx : World} {nb K xb S0 S1 : Nat} {rows : Rid → Value} {vals : Rid → List Value} {inn st ei : Nat → Nat} {zs : List Nat} {s : ByteArray} {he rd : Bool} {eb : Nat} {rdv : Value} {ra_ : Option Addr} {rc ci cp tb fl fl' : Nat} {wn vn tn : Option Nat}
    (L : LMem w W5 nb K xb rows vals inn st ei) (R : LRel nb K rows vals inn ei (edgesOf K zs)) (hS0 : S0 = W5.heap.size) (hS1 : S1 = W12.heap.size)
    (Q : QS W5 W12 S0 s he rd (op (na0 nb) wn) eb rdv ra_ rc ci (vn.map (np (na0 nb))) cp tb (op (na0 nb) tn) fl) (hk : Still (fun b => b < S1) W12 wx)
    (hw : he = false → wn = none) (wl : ∀ i, wn = some i → i < K) (vl : ∀ i, vn = some i → i < K) (tl : ∀ i, tn = some i → i < K) (hst : ∀ i, st i ≤ 2) (hstK : st K = 0) (hfl : bits BinOp.andNot IntKind.u8 (fl : Int) 2 = (fl' : Int)) (hK : 0 < K) (hK2 : K ≤ 256) (hEn : (edgesOf K zs).length ≤ 1024) :
    Pre wx (fun b => b < xb + 2 ∨ (S0 ≤ b ∧ b < wx.heap.size)) (na0 nb) K rows vals inn st (edgesOf K zs) (S0 + 1 + 1) tb (tb + 1) S0 (S0 + 1) eb s fl fl' he rd wn vn tn rdv ra_ rc ci cp := by
  have hS0' := hS0
  subst hS0 hS1
  have q := Q.later hk
  have hxb : xb + 1 < W5.heap.size := L.gr.sep.old (xb + 1) (by simp)
  have hx := L.xbe
  have hst2 : Still (fun b => b < W5.heap.size) W5 wx := Q.pe.st.trans (hk.weak fun b hb => by have := Q.pe.sz; omega)
  have hEl := edges_lt hK zs
  have o1 := Q.o1
  have sz := q.sz
  have ff : ∀ b, W5.heap.size ≤ b → b < wx.heap.size → Fx (fun b => b < xb + 2 ∨ (W5.heap.size ≤ b ∧ b < wx.heap.size)) (na0 nb) K b := fun b h1 h2 => ⟨.inr ⟨h1, h2⟩, fun i hi => by simp [na0]; omega⟩
  refine ⟨Q.pe.hr, Gr.later L.gr hst2, ⟨by omega, by omega, by omega, by omega, fun h => ⟨(q.pe.be h).1, Q.o2 h⟩, ff _ (by omega) (by omega), ff _ (by omega) (by omega), ff _ (by omega) (by omega), ff _ (by omega) (by omega), ff _ (by omega) (by omega), fun h => ff _ (by have := (q.pe.be h).1; omega) (q.pe.be h).2.1⟩,
    ⟨q.pe.bp, q.bt, q.bi, fun h => (q.pe.be h).2.2, q.pe.hmi, q.pe.hmp⟩, hw, wl, vl, tl, hst, hfl, (R.oth rs (by simp)).1, (R.oth rs (by simp)).2, (R.oth ra (by simp)).1, (R.oth ra (by simp)).2, fun i _ => R.vo i, fun e he => (hEl e he).2, by omega, hK2, fun i => by rw [R.hin]; have := ins_le (edgesOf K zs) i; omega, (R.otk K (Nat.le_refl _)).1, by rw [R.vo, outs_big hEl]; rfl, by rw [R.hin, ins_big hEl], hstK⟩

theorem neq62_same (eb : Nat) (W : World) : (binOp .neq 62 (ep eb true) (ep eb true)).run Yba.prog W = .ok (.bool false) W := by
  obtain ⟨d, hd, hd2⟩ := Option.map_eq_some_iff.1 (show (Yba.prog.info? 64).map (fun i => i.size) = some 2 by kernel_rfl)
  have h : ∀ e : Nat, (Op.equalIn (e + 1) 62 (ep eb true) (ep eb true)).run Yba.prog W = .ok true W := fun e => by
    simp [ep, Op.equalIn, run_underlying Yba.underlying62, sizeOf, typeInfo, hd, run_sameAddr_same]
  have h1 : (Op.equal 62 (ep eb true) (ep eb true)).run Yba.prog W = .ok true W := h 9999
  simp only [binOp, ep]
  simp [ep] at h1
  simp [h1]
theorem neq_self (na : Nat → Nat) (o : Option Nat) (W : World) : (binOp .neq 40 (op na o) (op na o)).run Yba.prog W = .ok (.bool false) W := by
  cases o with
  | none => exact neq_nil na none W
  | some x => exact neq40_same W _

/-- the memory of the end: the graph, what is expected of it -/
structure FS (w wx : World) (nb K xb : Nat) (F : Nat → Prop) (na : Nat → Nat) (N : Nat) (rows : Rid → Value) (vals : Rid → List Value) (inn st ei : Nat → Nat) : Prop where
  gr : ∃ seen aim, Gr wx F na N rows vals inn st seen aim
  tn : Tab wx nb 40 K (fun j => np (na0 nb) j)
  ts : Tab wx (nb + 1) 39 K (fun j => .int .u8 (st j : Int))
  tx : Tab wx xb 37 K (fun j => rows (rx j))
  ti : Tab wx (xb + 1) 3 K (fun j => .int .i64 (ei j : Int))
  bel : Below nb w wx
  f1 : Fx F na N nb
  f2 : Fx F na N (nb + 1)
  f3 : Fx F na N xb
  f4 : Fx F na N (xb + 1)
  low : ∀ b, b < nb → Fx F na N b
  o : nb + 1 < xb
  nn : ∀ i, i < K → na i = na0 nb i
  kn : K ≤ N
theorem FS.of_read {w W5 W12 W13 w' : World} {nb K xb S0 S1 : Nat} {rows rows' : Rid → Value} {vals vals' : Rid → List Value} {inn inn' st ei : Nat → Nat} {s : ByteArray} {he rd : Bool} {wv : Value} {eb : Nat} {rdv : Value} {ra_ : Option Addr} {rc ci : Nat} {vo : Option Value} {cp tb : Nat} {tv : Value} {fl : Nat} {F' : Nat → Prop} {na' : Nat → Nat} {N' : Nat} {seen aim : Nat → Bool}
    (L : LMem w W5 nb K xb rows vals inn st ei) (hS0 : S0 = W5.heap.size) (hS1 : S1 = W12.heap.size) (Q : QS W5 W12 S0 s he rd wv eb rdv ra_ rc ci vo cp tb tv fl) (hk : Still (fun b => b < S1) W12 W13)
    (hs : Still (Gk (fun b => b < xb + 2 ∨ (S0 ≤ b ∧ b < W13.heap.size)) (na0 nb) K (S0 + 1 + 1) tb (tb + 1) S0 eb he) W13 w') (gr : Gr w' F' na' N' rows' vals' inn' st seen aim)
    (hfx : ∀ b, Fx (fun b => b < xb + 2 ∨ (S0 ≤ b ∧ b < W13.heap.size)) (na0 nb) K b → Fx F' na' N' b) (hrx : ∀ i, rows' (rx i) = rows (rx i)) (hnn : ∀ i, i < K → na' i = na0 nb i) (hkn : K ≤ N') : FS w w' nb K xb F' na' N' rows' vals' inn' st ei := by
  have hxb : xb + 1 < W5.heap.size := L.gr.sep.old (xb + 1) (by simp)
  have hx := L.xbe
  have sz := Q.pe.sz
  have o1 := Q.o1
  have hst : Still (fun b => b < W5.heap.size) W5 W13 := Q.pe.st.trans (hk.weak fun b hb => by omega) |>.weak fun b hb => by omega
  have fx : ∀ b, b < xb + 2 → (∀ i, i < K → na0 nb i ≠ b) → Fx (fun b => b < xb + 2 ∨ (S0 ≤ b ∧ b < W13.heap.size)) (na0 nb) K b := fun b h1 h2 => ⟨.inl h1, h2⟩
  have own : ∀ b, b < xb + 2 → ¬ Own (S0 + 1 + 1) tb (tb + 1) S0 eb he b := fun b hb q => by
    rcases q with q | q | q | q | q
    · omega
    · omega
    · omega
    · omega
    · have := (Q.pe.be q.1).1; omega
  have hb : ∀ b, b < xb + 2 → (∀ i, i < K → na0 nb i ≠ b) → w'.heap[b]? = W5.heap[b]? := fun b h1 h2 => (hs.block b ⟨fx b h1 h2, own b h1⟩).trans (hst.block b (by omega))
  have n1 : ∀ i, i < K → na0 nb i ≠ nb := fun i hi => by unfold na0; omega
  have n2 : ∀ i, i < K → na0 nb i ≠ nb + 1 := fun i hi => by unfold na0; omega
  have n3 : ∀ i, i < K → na0 nb i ≠ xb := fun i hi => by unfold na0; omega
  have n4 : ∀ i, i < K → na0 nb i ≠ xb + 1 := fun i hi => by unfold na0; omega
  have n5 : ∀ b, b < nb → ∀ i, i < K → na0 nb i ≠ b := fun b hb i hi => by unfold na0; omega
  have e : (fun j => rows' (rx j)) = fun j => rows (rx j) := funext hrx
  refine ⟨⟨_, _, gr⟩, L.tn.same (hb _ (by omega) n1), L.ts.same (hb _ (by omega) n2), by rw [e]; exact L.tx.same (hb _ (by omega) n3), L.ti.same (hb _ (by omega) n4), ?_, hfx _ (fx _ (by omega) n1), hfx _ (fx _ (by omega) n2), hfx _ (fx _ (by omega) n3), hfx _ (fx _ (by omega) n4), fun b hb' => hfx _ (fx _ (by omega) (n5 b hb')), by omega, hnn, hkn⟩
  exact ⟨hs.os.trans (hst.os.trans L.bel.os), hs.tape.trans (hst.tape.trans L.bel.tape), hs.output.trans (hst.output.trans L.bel.output), Nat.le_trans L.bel.size (Nat.le_trans hst.size hs.size), fun b hb' => (hb b (by omega) (n5 b hb')).trans (L.bel.block b hb')⟩
section
variable {w wx w2 : World} {nb K xb : Nat} {F : Nat → Prop} {na : Nat → Nat} {N : Nat} {rows : Rid → Value} {vals : Rid → List Value} {inn st ei : Nat → Nat}
theorem FS.sep (h : FS w wx nb K xb F na N rows vals inn st ei) : Sep wx F rows vals := by obtain ⟨_, _, g⟩ := h.gr; exact g.sep
theorem FS.new (h : FS w wx nb K xb F na N rows vals inn st ei) {s : Nat} (hs : K ≤ s) {v : Value} {xs : List Value} (hS : Sep w2 F (upr rows (rx s) v) (upr vals (rx s) xs)) (hk : Still F wx w2) : FS w w2 nb K xb F na N (upr rows (rx s) v) (upr vals (rx s) xs) inn st ei := by
  obtain ⟨seen, aim, g⟩ := h.gr
  refine ⟨⟨seen, aim, g.turn (r := rx s) (by simp) hS hk.block⟩, h.tn.same (hk.block _ h.f1.1), h.ts.same (hk.block _ h.f2.1), ?_, h.ti.same (hk.block _ h.f4.1), h.bel.trans (hk.below fun b hb => (h.low b hb).1), h.f1, h.f2, h.f3, h.f4, h.low, h.o, h.nn, h.kn⟩
  exact (h.tx.same (hk.block _ h.f3.1)).congr fun j hj => by rw [upr_other _ _ (by simp; omega)]
theorem FS.exp (h : FS w wx nb K xb F na N rows vals inn st ei) {s : Nat} (hs : s < K) {v : Value} {xs : List Value} (hS : Sep w2 F (upr rows (rx s) v) (upr vals (rx s) xs)) (hk : Still F wx w2) : FS w (w2.setCell ⟨xb, s, none⟩ v) nb K xb F na N (upr rows (rx s) v) (upr vals (rx s) xs) inn st ei := by
  obtain ⟨seen, aim, g⟩ := h.gr
  have ho := h.o
  refine ⟨⟨seen, aim, (g.turn (r := rx s) (by simp) hS hk.block).other h.f3.1 h.f3.2 _⟩, Tab.other (h.tn.same (hk.block _ h.f1.1)) (by simp; omega) _, Tab.other (h.ts.same (hk.block _ h.f2.1)) (by simp; omega) _, ?_, Tab.other (h.ti.same (hk.block _ h.f4.1)) (by simp) _, (h.bel.trans (hk.below fun b hb => (h.low b hb).1)).setCell (by simp; omega) _, h.f1, h.f2, h.f3, h.f4, h.low, h.o, h.nn, h.kn⟩
  refine ((h.tx.same (hk.block _ h.f3.1)).set s v).congr fun j hj => ?_
  by_cases e : j = s
  · subst e; simp
  · rw [up_other _ _ e, upr_other _ _ (by simp [e])]
theorem FS.expIn (h : FS w wx nb K xb F na N rows vals inn st ei) {d : Nat} (hd : d < K) (n : Nat) : FS w (wx.setCell ⟨xb + 1, d, none⟩ (.int .i64 (n : Int))) nb K xb F na N rows vals inn st (up ei d n) := by
  obtain ⟨seen, aim, g⟩ := h.gr
  have ho := h.o
  refine ⟨⟨seen, aim, g.other h.f4.1 h.f4.2 _⟩, Tab.other h.tn (by simp; omega) _, Tab.other h.ts (by simp; omega) _, Tab.other h.tx (by simp) _, ?_, h.bel.setCell (by simp; omega) _, h.f1, h.f2, h.f3, h.f4, h.low, h.o, h.nn, h.kn⟩
  refine (h.ti.set d (.int .i64 (n : Int))).congr fun j hj => ?_
  by_cases e : j = d
  · subst e; simp
  · rw [up_other _ _ e, up_other _ _ e]
theorem FS.drewN (h : FS w wx nb K xb F na N rows vals inn st ei) (n : Nat) : FS w (wx.drewN n) nb K xb F na N rows vals inn st ei := by
  obtain ⟨seen, aim, g⟩ := h.gr
  exact ⟨⟨seen, aim, Gr.drewN g n⟩, h.tn.same rfl, h.ts.same rfl, h.tx.same rfl, h.ti.same rfl, ⟨h.bel.os, h.bel.tape, h.bel.output, h.bel.size, h.bel.block⟩, h.f1, h.f2, h.f3, h.f4, h.low, h.o, h.nn, h.kn⟩
end

/-- pointers, not too many -/
def Okl (n : Nat) (L : List Value) : Prop := L.length ≤ n ∧ ∀ x ∈ L, ∃ q, x = .pointer (some q)
theorem Okl.snoc {n : Nat} {L : List Value} (h : Okl n L) (na : Nat → Nat) (i : Nat) : Okl (n + 1) (L ++ [np na i]) := by
  refine ⟨by have := h.1; simp; omega, fun x hx => ?_⟩
  rw [List.mem_append, List.mem_singleton] at hx
  rcases hx with hx | rfl
  · exact h.2 x hx
  · exact ⟨_, rfl⟩
theorem Okl.more {n : Nat} {L : List Value} (h : Okl n L) : Okl (n + 1) L := ⟨by have := h.1; omega, h.2⟩
theorem okl_addW {n : Nat} {L : Nat → List Value} (h : ∀ i, Okl n (L i)) (we : Option Nat) (na : Nat → Nat) (m i : Nat) : Okl (n + 1) (addW we (np na m) L i) := by
  cases we with
  | none => exact (h i).more
  | some w =>
    simp only [addW]
    by_cases e : i = w
    · subst e; rw [up_same]; exact (h i).snoc na m
    · rw [up_other _ _ e]; exact (h i).more
theorem okl_addV {n : Nat} {L : Nat → List Value} (h : ∀ i, Okl n (L i)) (vn : Option Nat) (m : Nat) (na : Nat → Nat) (i : Nat) : Okl (n + 1) (addV vn m na L i) := by
  cases vn with
  | none => exact (h i).more
  | some v =>
    simp only [addV]
    by_cases e : i = m
    · subst e; rw [up_same]; exact (h i).snoc na v
    · rw [up_other _ _ e]; exact (h i).more

/-- how the law stands ahead of its last loop -/
structure FIN (w wx : World) (nb K xb : Nat) (st : Nat → Nat) (lk : Bool) (tn : Option Nat) (tv v48 v49 : Value) : Prop where
  ex : ∃ F na N rows vals inn ei, FS w wx nb K xb F na N rows vals inn st ei ∧ (∀ i, i < K → vals (ro i) = vals (rx i)) ∧ (∀ i, Okl 100000 (vals (rx i))) ∧ (∀ i, i < K → inn i = ei i) ∧ (∀ i, i ≤ K → inn i ≤ 100000) ∧
    (lk = true → tn = none → N = K + 1 ∧ tv = np na K ∧ v48 = rows (rx K) ∧ vals (ro K) = vals (rx K) ∧ v49 = .int .i64 (inn K : Int))

theorem okl_outs {E : List (Nat × Nat)} (h : E.length ≤ 1024) (na : Nat → Nat) (i : Nat) : Okl 1024 ((outs E i).map (np na)) := by
  refine ⟨by rw [List.length_map]; have := outs_len E i; omega, fun x hx => ?_⟩
  obtain ⟨y, _, rfl⟩ := List.mem_map.1 hx
  exact ⟨_, rfl⟩
theorem Okl.big {n : Nat} {L : List Value} (h : Okl n L) (hn : n ≤ 100000) : Okl 100000 L := ⟨by have := h.1; omega, h.2⟩
theorem inV_le {vn : Option Nat} {f : Nat → Nat} {n : Nat} (h : ∀ i, f i ≤ n) (i : Nat) : inV vn f i ≤ n + 1 := by
  cases vn with
  | none => have := h i; simp only [inV]; omega
  | some v =>
    simp only [inV]
    by_cases e : i = v
    · subst e; rw [up_same]; have := h i; omega
    · rw [up_other _ _ e]; have := h i; omega
theorem inW_le' {we : Option Nat} {m : Nat} {f : Nat → Nat} {n : Nat} (h : ∀ i, f i ≤ n) (i : Nat) : inW we m f i ≤ n + 1 := by
  cases we with
  | none => have := h i; simp only [inW]; omega
  | some v =>
    simp only [inW]
    by_cases e : i = m
    · subst e; rw [up_same]; have := h i; omega
    · rw [up_other _ _ e]; have := h i; omega
end Go.Proofs.Ybulkboaa.BLawLem
