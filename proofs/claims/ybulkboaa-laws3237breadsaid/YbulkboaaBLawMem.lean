import Derived.Test.YbulkboaaBLink
namespace Go.Proofs.Ybulkboaa.BLawMem
open Go.RowKit MapLaw CBase BPlain BBreach BMem BLink
set_option linter.unusedVariables false

/-- the block of node j -/
def na0 (nb : Nat) : Nat → Nat := fun j => nb + 2 + j

/-- the memory of the first loop: i nodes are made -/
structure N1 (w wr : World) (nb K i : Nat) (st : Nat → Nat) : Prop where
  tn : Tab wr nb 40 K (fun j => if j < i then np (na0 nb) j else .pointer none)
  ts : Tab wr (nb + 1) 39 K (fun j => .int .u8 ((if j < i then st j else 0 : Nat) : Int))
  bl : ∀ j, j < i → Blk wr (nb + 2 + j) (ncell (.slice none 0 0) 0 (st j) false false) 43
  sz : wr.heap.size = nb + 2 + i
  bel : Below nb w wr

theorem Tab.alloc {W : World} {b t n : Nat} {f : Nat → Value} (h : Tab W b t n f) (o : Obj) : Tab (W.alloc o) b t n f := h.same (Below.heap_alloc _ _ _ h.lt)
theorem Tab.other {W : World} {b t n : Nat} {f : Nat → Value} (h : Tab W b t n f) {a : Addr} (ha : b ≠ a.block) (v : Value) : Tab (W.setCell a v) b t n f := h.same (Below.heap_setCell _ _ _ _ ha)
theorem Tab.drew {W : World} {b t n : Nat} {f : Nat → Value} (h : Tab W b t n f) : Tab W.drew b t n f := h.same rfl

theorem N1.step {w wr : World} {nb K i : Nat} {st : Nat → Nat} (h : N1 w wr nb K i st) (hi : i < K) (x : Nat) (hx : x = st i) (q : Nat) (hq : q = nb + 2 + i) :
    N1 w (((wr.setCell ⟨nb + 1, i, none⟩ (.int .u8 (x : Int))).alloc (.cells (ncell (.slice none 0 0) 0 x false false) 43)).setCell ⟨nb, i, none⟩ (.pointer (some ⟨q, 0, none⟩))) nb K (i + 1) st := by
  subst hx hq
  have hsz := h.sz
  refine ⟨?_, ?_, fun j hj => ?_, by simp; omega, ((h.bel.setCell (p := ⟨nb + 1, i, none⟩) (by simp) _).alloc (by simp; omega) _).setCell (by simp) _⟩
  · refine (Tab.set (Tab.alloc (Tab.other h.tn (by simp) _) _) i _).congr fun j hj => ?_
    by_cases e : j = i
    · subst e; simp [np, na0]
    · rw [up_other _ _ e]
      by_cases h1 : j < i
      · rw [if_pos h1, if_pos (by omega)]
      · rw [if_neg h1, if_neg (by omega)]
  · refine (Tab.other (Tab.alloc (h.ts.set i (.int .u8 (st i : Int))) _) (by simp) _).congr fun j hj => ?_
    by_cases e : j = i
    · subst e; simp
    · rw [up_other _ _ e]
      by_cases h1 : j < i
      · rw [if_pos h1, if_pos (by omega)]
      · rw [if_neg h1, if_neg (by omega)]
  · by_cases e : j = i
    · subst e
      refine Blk.other ?_ (by simp; omega) _
      have := Blk.new' (wr.setCell ⟨nb + 1, j, none⟩ (.int .u8 (st j : Int))) (ncell (.slice none 0 0) 0 (st j) false false) 43 (nb + 2 + j) (by simp; omega)
      exact this
    · exact (((h.bl j (by omega)).other (by simp; omega) _).alloc _).other (by simp; omega) _

/-- the memory of the second loop -/
structure LMem (w wr : World) (nb K xb : Nat) (rows : Rid → Value) (vals : Rid → List Value) (inn st ei : Nat → Nat) : Prop where
  gr : Gr wr (fun b => b < xb + 2) (na0 nb) K rows vals inn st (fun _ => false) (fun _ => false)
  tn : Tab wr nb 40 K (fun j => np (na0 nb) j)
  ts : Tab wr (nb + 1) 39 K (fun j => .int .u8 (st j : Int))
  tx : Tab wr xb 37 K (fun j => rows (rx j))
  ti : Tab wr (xb + 1) 3 K (fun j => .int .i64 (ei j : Int))
  bel : Below nb w wr
  xbe : xb = nb + 2 + K

theorem LMem.start {w wr wx wi : World} {nb K : Nat} {st : Nat → Nat} (h : N1 w wr nb K K st) (hx : Tab wx (nb + 2 + K) 37 K (fun _ => .slice none 0 0)) (bx : Below wr.heap.size wr wx) (sx : wx.heap.size = nb + 2 + K + 1)
    (hi : Tab wi (nb + 2 + K + 1) 3 K (fun _ => .int .i64 0)) (bi : Below wx.heap.size wx wi) (si : wi.heap.size = nb + 2 + K + 2) : LMem w wi nb K (nb + 2 + K) (fun _ => .slice none 0 0) (fun _ => []) (fun _ => 0) st (fun _ => 0) := by
  have hsz := h.sz
  have hb : ∀ b, b < nb + 2 + K → wi.heap[b]? = wr.heap[b]? := fun b hb => (bi.block b (by omega)).trans (bx.block b (by omega))
  refine ⟨⟨⟨fun r => ⟨rfl, .inl ⟨rfl, rfl⟩⟩, fun r s b hr => by simp [Value.ownBlock] at hr, fun r b hr => by simp [Value.ownBlock] at hr, fun b hb => by omega⟩, ⟨fun i hi => ?_, fun i j _ _ e => by simp [na0] at e; omega⟩, fun i hi => by simp [na0]; omega⟩, ?_, ?_, ?_, ?_, ?_, rfl⟩
  · exact (hb _ (by simp [na0]; omega)).trans (h.bl i hi)
  · exact (h.tn.same (hb _ (by omega))).congr fun j hj => by rw [if_pos hj]
  · exact (h.ts.same (hb _ (by omega))).congr fun j hj => by rw [if_pos hj]
  · exact hx.same (bi.block _ (by omega))
  · exact hi
  · exact ⟨bi.os.trans (bx.os.trans h.bel.os), bi.tape.trans (bx.tape.trans h.bel.tape), bi.output.trans (bx.output.trans h.bel.output), Nat.le_trans h.bel.size (Nat.le_trans bx.size bi.size), fun b hb' => (hb b (by omega)).trans (h.bel.block b hb')⟩

section
variable {w wr w2 : World} {nb K xb : Nat} {rows : Rid → Value} {vals : Rid → List Value} {inn st ei : Nat → Nat}
theorem LMem.drew (h : LMem w wr nb K xb rows vals inn st ei) : LMem w wr.drew nb K xb rows vals inn st ei := ⟨h.gr.drew, Tab.drew h.tn, Tab.drew h.ts, Tab.drew h.tx, Tab.drew h.ti, h.bel.drew, h.xbe⟩
/-- nodes[s].out = append(..) -/
theorem LMem.out (h : LMem w wr nb K xb rows vals inn st ei) {s : Nat} (hs : s < K) {v : Value} {xs : List Value} (hS : Sep w2 (fun b => b < xb + 2) (upr rows (ro s) v) (upr vals (ro s) xs)) (hk : Still (fun b => b < xb + 2) wr w2) :
    LMem w (w2.setCell ⟨na0 nb s, 0, none⟩ v) nb K xb (upr rows (ro s) v) (upr vals (ro s) xs) inn st ei := by
  have hx := h.xbe
  have e : (fun j => upr rows (ro s) v (rx j)) = fun j => rows (rx j) := funext fun j => upr_xo _ _ _ _
  exact ⟨h.gr.setOut hs hS hk.block, Tab.other (h.tn.same (hk.block _ (by omega))) (by simp [na0]; omega) _, Tab.other (h.ts.same (hk.block _ (by omega))) (by simp [na0]; omega) _, by rw [e]; exact Tab.other (h.tx.same (hk.block _ (by omega))) (by simp [na0]; omega) _, Tab.other (h.ti.same (hk.block _ (by omega))) (by simp [na0]; omega) _, (h.bel.trans (hk.below (B := nb) (fun b hb => by omega))).setCell (by simp [na0]; omega) _, hx⟩
theorem LMem.setIn (h : LMem w wr nb K xb rows vals inn st ei) {d : Nat} (hd : d < K) (n : Nat) : LMem w (wr.setCell ⟨na0 nb d, 1, none⟩ (.int .i64 (n : Int))) nb K xb rows vals (up inn d n) st ei := by
  have hx := h.xbe
  exact ⟨h.gr.setIn hd n, Tab.other h.tn (by simp [na0]; omega) _, Tab.other h.ts (by simp [na0]; omega) _, Tab.other h.tx (by simp [na0]; omega) _, Tab.other h.ti (by simp [na0]; omega) _, h.bel.setCell (by simp [na0]; omega) _, hx⟩
/-- expOut[s] = append(..) -/
theorem LMem.exp (h : LMem w wr nb K xb rows vals inn st ei) {s : Nat} (hs : s < K) {v : Value} {xs : List Value} (hS : Sep w2 (fun b => b < xb + 2) (upr rows (rx s) v) (upr vals (rx s) xs)) (hk : Still (fun b => b < xb + 2) wr w2) :
    LMem w (w2.setCell ⟨xb, s, none⟩ v) nb K xb (upr rows (rx s) v) (upr vals (rx s) xs) inn st ei := by
  have hx := h.xbe
  refine ⟨(h.gr.turn (r := rx s) (by simp) hS hk.block).other (by simp) (fun i hi => by simp [na0]; omega) _, Tab.other (h.tn.same (hk.block _ (by omega))) (by simp; omega) _, Tab.other (h.ts.same (hk.block _ (by omega))) (by simp; omega) _, ?_, Tab.other (h.ti.same (hk.block _ (by omega))) (by simp) _, (h.bel.trans (hk.below (B := nb) (fun b hb => by omega))).setCell (by simp; omega) _, hx⟩
  refine ((h.tx.same (hk.block _ (by omega))).set s v).congr fun j hj => ?_
  by_cases e : j = s
  · subst e; simp
  · rw [up_other _ _ e, upr_other _ _ (by simp [e])]
theorem LMem.expIn (h : LMem w wr nb K xb rows vals inn st ei) {d : Nat} (hd : d < K) (n : Nat) : LMem w (wr.setCell ⟨xb + 1, d, none⟩ (.int .i64 (n : Int))) nb K xb rows vals inn st (up ei d n) := by
  have hx := h.xbe
  refine ⟨h.gr.other (by simp) (fun i hi => by simp [na0]; omega) _, Tab.other h.tn (by simp; omega) _, Tab.other h.ts (by simp; omega) _, Tab.other h.tx (by simp) _, ?_, h.bel.setCell (by simp; omega) _, hx⟩
  refine (h.ti.set d (.int .i64 (n : Int))).congr fun j hj => ?_
  by_cases e : j = d
  · subst e; simp
  · rw [up_other _ _ e, up_other _ _ e]
end

/-- what the memory of the graph holds of the edges -/
structure LRel (nb K : Nat) (rows : Rid → Value) (vals : Rid → List Value) (inn ei : Nat → Nat) (E : List (Nat × Nat)) : Prop where
  vo : ∀ i, vals (ro i) = (outs E i).map (np (na0 nb))
  vx : ∀ i, vals (rx i) = (outs E i).map (np (na0 nb))
  hin : ∀ i, inn i = ins E i
  hei : ∀ i, ei i = ins E i
  oth : ∀ r : Rid, 2 ≤ r.1 → rows r = .slice none 0 0 ∧ vals r = []
  otk : ∀ i, K ≤ i → rows (ro i) = .slice none 0 0 ∧ rows (rx i) = .slice none 0 0
theorem LRel.start (nb K : Nat) : LRel nb K (fun _ => .slice none 0 0) (fun _ => []) (fun _ => 0) (fun _ => 0) [] :=
  ⟨fun _ => rfl, fun _ => rfl, fun _ => rfl, fun _ => rfl, fun _ _ => ⟨rfl, rfl⟩, fun _ _ => ⟨rfl, rfl⟩⟩
theorem LRel.step {nb K : Nat} {rows : Rid → Value} {vals : Rid → List Value} {inn ei : Nat → Nat} {E : List (Nat × Nat)} (h : LRel nb K rows vals inn ei E) {s d : Nat} (hs : s < K) (v v' : Value) :
    LRel nb K (upr (upr rows (ro s) v) (rx s) v') (upr (upr vals (ro s) (vals (ro s) ++ [np (na0 nb) d])) (rx s) (vals (rx s) ++ [np (na0 nb) d])) (up inn d (inn d + 1)) (up ei d (ei d + 1)) (E ++ [(s, d)]) := by
  refine ⟨fun i => ?_, fun i => ?_, fun i => ?_, fun i => ?_, fun r hr => ?_, fun i hi => ?_⟩
  · rw [outs_snoc, upr_ox]
    by_cases e : s = i
    · subst e; rw [if_pos rfl, upr_same, h.vo, List.map_append]; rfl
    · rw [if_neg e, upr_other _ _ (by simp; omega), h.vo]
  · rw [outs_snoc]
    by_cases e : s = i
    · subst e; rw [if_pos rfl, upr_same, h.vx, List.map_append]; rfl
    · rw [if_neg e, upr_other _ _ (by simp; omega), upr_xo, h.vx]
  · rw [ins_snoc]
    by_cases e : d = i
    · subst e; rw [if_pos rfl, up_same, h.hin]
    · rw [if_neg e, up_other _ _ (by omega), h.hin]
  · rw [ins_snoc]
    by_cases e : d = i
    · subst e; rw [if_pos rfl, up_same, h.hei]
    · rw [if_neg e, up_other _ _ (by omega), h.hei]
  · have e1 : r ≠ rx s := fun e => by rw [e] at hr; simp at hr
    have e2 : r ≠ ro s := fun e => by rw [e] at hr; simp at hr
    rw [upr_other _ _ e1, upr_other _ _ e2, upr_other _ _ e1, upr_other _ _ e2]
    exact h.oth r hr
  · rw [upr_ox, upr_other _ _ (by simp; omega), upr_other _ _ (by simp; omega), upr_xo]
    exact h.otk i hi
theorem ins_le (E : List (Nat × Nat)) (i : Nat) : ins E i ≤ E.length := by
  unfold ins
  exact List.length_filter_le _ _
end Go.Proofs.Ybulkboaa.BLawMem
