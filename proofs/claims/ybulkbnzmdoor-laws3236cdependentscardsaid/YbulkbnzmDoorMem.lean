import Derived.Test.YbulkbnzmDoorNet4
import Derived.Test.YbulkbnzmDoorPlain2
import Derived.Deep.AppendLies
namespace Go.Proofs.YbulkbnzmDoor.Mem
open Go.RowKit MapLaw Base Net Net2 Net3 Net4 Plain
set_option linter.unusedVariables false
set_option maxRecDepth 100000

/-- the zero cells of a type -/
def zc (t : TypeId) : Array Value :=
  if t = 34 then #[.int .u8 0, .int .u8 0, .int .u8 0, .int .u8 0, .int .u8 0, .int .u8 0, .int .u8 0, .int .u8 0, .int .u8 0, .int .u8 0, .int .u8 0, .int .u8 0, .int .u8 0, .int .u8 0, .int .u8 0, .int .u8 0, .int .u64 0, .int .u64 0, .int .i64 0, .int .u32 0, .int .u32 0, .int .u32 0, .int .u32 0, .int .u32 0, .int .u32 0, .int .u32 0, .int .u32 0, .int .u32 0, .int .u32 0, .int .u32 0, .int .u32 0, .int .u32 0, .int .i32 0, .int .u32 0, .int .u8 0, .int .u8 0, .int .u8 0, .int .u8 0, .int .u8 0, .int .u8 0, .int .u8 0, .int .u8 0, .int .u8 0, .int .u8 0, .int .u8 0, .int .u8 0, .int .u8 0, .int .u8 0, .int .u8 0, .int .u8 0, .int .u8 0, .int .u8 0, .int .u8 0, .int .u8 0, .int .u64 0, .int .u64 0, .int .i64 0, .int .u32 0, .int .u32 0, .int .u32 0, .int .u32 0, .int .u32 0, .int .u32 0, .int .u32 0, .int .u32 0, .int .u32 0, .int .u32 0, .int .u32 0, .int .u32 0, .int .u32 0, .int .i32 0, .int .u32 0, .int .u8 0, .int .u8 0, .int .u8 0, .int .u8 0, .int .u8 0, .int .u8 0, .int .u8 0, .int .u8 0, .int .u8 0, .int .u8 0, .int .u8 0, .int .u8 0, .int .u8 0, .int .u8 0, .int .u8 0, .int .u8 0, .int .u8 0, .int .u8 0, .int .u8 0, .int .u8 0, .int .u64 0, .int .u64 0, .int .i64 0, .int .u32 0, .int .u32 0, .int .u32 0, .int .u32 0, .int .u32 0, .int .u32 0, .int .u32 0, .int .u32 0, .int .u32 0, .int .u32 0, .int .u32 0, .int .u32 0, .int .u32 0, .int .i32 0, .int .u32 0, .int .u8 0, .int .u8 0, .int .u8 0, .int .u8 0, .int .u8 0, .int .u8 0, .int .u8 0, .int .u8 0, .int .u8 0, .int .u8 0, .int .u8 0, .int .u8 0, .int .u8 0, .int .u8 0, .int .u8 0, .int .u8 0, .int .u8 0, .int .u8 0, .int .u8 0, .int .u8 0, .int .u64 0, .int .u64 0, .int .i64 0, .int .u32 0, .int .u32 0, .int .u32 0, .int .u32 0, .int .u32 0, .int .u32 0, .int .u32 0, .int .u32 0, .int .u32 0, .int .u32 0, .int .u32 0, .int .u32 0, .int .u32 0, .int .i32 0, .int .u32 0, .int .u8 0, .int .u8 0, .int .u8 0, .int .u8 0]
  else if t = 55 then #[.int .u64 0, .int .u64 0, .pointer none, .int .u64 0, .int .u64 0, .pointer none, .int .u8 0, .int .u32 0, .int .u32 0, .int .u32 0, .pointer none, .int .i64 0, .bool false, .bool false, .int .i64 0, .bool false, .bool false, .int .i64 0, .pointer none, .int .u64 0, .int .u64 0, .pointer none, .int .u64 0, .int .u64 0, .pointer none, .int .u8 0, .int .u32 0, .int .u32 0, .int .u32 0, .pointer none, .int .i64 0, .bool false, .bool false, .int .i64 0, .bool false, .bool false, .int .i64 0, .pointer none, .int .u64 0, .int .u64 0, .pointer none, .int .u64 0, .int .u64 0, .pointer none, .int .u8 0, .int .u32 0, .int .u32 0, .int .u32 0, .pointer none, .int .i64 0, .bool false, .bool false, .int .i64 0, .bool false, .bool false, .int .i64 0, .pointer none]
  else #[.string ⟨#[]⟩, .int .i64 0, .bool false, .slice none 0 0, .int .u32 0, .slice none 0 0, .slice none 0 0, .int .u32 0, .int .u32 0, .slice none 0 0, .int .i64 0, .int .u64 0, .map none, .int .i64 0, .int .i64 0, .int .i64 0, .int .i64 0, .int .i64 0, .int .i64 0, .int .i64 0, .int .i64 0, .int .i64 0, .int .i64 0, .int .i64 0, .int .i64 0, .int .i64 0, .int .i64 0, .int .i64 0, .int .i64 0, .int .i64 0, .int .i64 0, .int .i64 0, .int .i64 0, .int .i64 0, .int .i64 0, .int .i64 0, .int .i64 0, .int .i64 0, .int .i64 0, .int .i64 0, .int .i64 0, .int .i64 0, .int .i64 0, .int .i64 0, .int .i64 0, .int .i64 0, .int .i64 0, .int .i64 0, .int .i64 0, .int .i64 0, .int .i64 0, .int .i64 0, .int .i64 0, .int .i64 0, .int .i64 0, .int .i64 0, .int .i64 0, .int .i64 0, .int .i64 0, .int .i64 0, .int .i64 0, .int .i64 0, .int .i64 0, .int .i64 0, .int .i64 0, .int .i64 0, .int .i64 0, .int .i64 0, .int .i64 0, .int .i64 0, .int .i64 0, .int .i64 0, .int .i64 0, .int .i64 0, .int .i64 0, .int .i64 0, .int .i64 0, .int .i64 0, .int .i64 0, .int .i64 0, .int .i64 0, .int .i64 0, .int .i64 0, .int .i64 0, .int .i64 0, .int .i64 0, .int .i64 0, .int .i64 0, .int .i64 0, .int .i64 0, .int .i64 0, .int .i64 0, .int .i64 0, .int .i64 0, .int .i64 0, .int .i64 0, .int .i64 0, .int .i64 0, .int .i64 0, .int .i64 0, .int .i64 0, .int .i64 0, .int .i64 0, .int .i64 0, .int .i64 0, .int .i64 0, .int .i64 0, .int .i64 0, .int .i64 0, .int .i64 0, .int .i64 0, .int .i64 0, .int .i64 0, .int .i64 0, .int .i64 0, .int .i64 0, .int .i64 0, .int .i64 0, .int .i64 0, .int .i64 0, .int .i64 0, .int .i64 0, .int .i64 0, .int .i64 0, .int .i64 0, .int .i64 0, .int .i64 0, .int .i64 0, .int .i64 0, .int .i64 0, .int .i64 0, .int .i64 0, .int .i64 0, .int .i64 0, .int .i64 0, .int .i64 0, .int .i64 0, .int .i64 0, .int .i64 0, .int .i64 0, .int .i64 0, .int .i64 0, .slice none 0 0, .int .i64 0, .int .u64 0, .slice none 0 0, .slice none 0 0, .map none, .slice none 0 0, .nilFunc, .slice none 0 0, .slice none 0 0, .map none, .slice none 0 0, .nilFunc, .slice none 0 0, .map none, .int .u64 0, .map none, .int .u32 0, .int .i64 0, .pointer none, .slice none 0 0, .slice none 0 0, .map none, .slice none 0 0, .slice none 0 0, .int .i64 0, .slice none 0 0, .nilFunc, .slice none 0 0]
theorem zero34 (w : World) : (zeroValue 34).run Ybad.prog w = .ok (.agg (zc 34)) w := by kernel_rfl
theorem zero55 (w : World) : (zeroValue 55).run Ybad.prog w = .ok (.agg (zc 55)) w := by kernel_rfl
theorem zero96 (w : World) : (zeroValue 96).run Ybad.prog w = .ok (.agg (zc 96)) w := by kernel_rfl

/-- the four entries -/
def esC : Array Value :=
  (((((((((((((((zc 34).setIfInBounds 0 (.int .u8 10)).setIfInBounds 34 (.int .u8 8)).setIfInBounds 37 (.int .u8 8)).setIfInBounds 38 (.int .u8 10)).setIfInBounds 72 (.int .u8 8)).setIfInBounds 75 (.int .u8 24)).setIfInBounds 71 (.int .u32 1)).setIfInBounds 76 (.int .u8 10)).setIfInBounds 77 (.int .u8 1)).setIfInBounds 110 (.int .u8 16)).setIfInBounds 113 (.int .u8 8)).setIfInBounds 114 (.int .u8 32)).setIfInBounds 115 (.int .u8 1)).setIfInBounds 148 (.int .u8 16))

/-- the prefix of entry k -/
theorem prefix_any (k : Nat) (hk : k < 4) (eb : Nat) (a4 a6 : Addr) (w : World) (hg : Gl w a4 a6) (he : Blk w eb esC 34) :
    Calls Ybad.prog 13 #[.pointer (some ⟨eb, k * 38, none⟩)] w fun e w' => e = .returned (.agg #[.int .u64 (Hi (grp k)), .int .u64 (Lo (grp k)), .pointer (some (Pt a4 a6 (grp k))), .int .u8 (Bt (grp k))]) ∧ Below w.heap.size w w' := by
  match k, hk with
  | 0, _ => exact prefix4 eb 0 0 0xffff0a000000 8 8 (by simp) (by simp) (by simp) a4 a6 w hg (he.cell 0 _ (by kernel_rfl)) (he.cell 1 _ (by kernel_rfl)) (he.cell 2 _ (by kernel_rfl)) (he.cell 3 _ (by kernel_rfl)) (he.cell 34 _ (by kernel_rfl)) (he.cell 37 _ (by kernel_rfl))
  | 1, _ => exact prefix4 eb 38 0 0xffff0a000000 8 24 (by simp) (by simp) (by simp) a4 a6 w hg (he.cell 38 _ (by kernel_rfl)) (he.cell 39 _ (by kernel_rfl)) (he.cell 40 _ (by kernel_rfl)) (he.cell 41 _ (by kernel_rfl)) (he.cell 72 _ (by kernel_rfl)) (he.cell 75 _ (by kernel_rfl))
  | 2, _ => exact prefix4 eb 76 1 0xffff0a010000 16 8 (by simp) (by simp) (by simp) a4 a6 w hg (he.cell 76 _ (by kernel_rfl)) (he.cell 77 _ (by kernel_rfl)) (he.cell 78 _ (by kernel_rfl)) (he.cell 79 _ (by kernel_rfl)) (he.cell 110 _ (by kernel_rfl)) (he.cell 113 _ (by kernel_rfl))
  | 3, _ =>
    have e : (esC.extract 114 (114 + 16)).toList = l16 := by kernel_rfl
    have hr : w.rangeAt eb 114 l16 := by rw [← e]; exact World.rangeAt_of_block he 114 16
    exact prefix6 eb 114 a4 a6 w hg ⟨hr, he.cell 148 _ (by kernel_rfl)⟩ (he.cell 151 _ (by kernel_rfl))

/-- the pointer to entry k: 4 means nil -/
def vp (eb k : Nat) : Option Addr := if k < 4 then some ⟨eb, k * 38, none⟩ else none
/-- the pointer to resolution i -/
def rp (sb i : Nat) : Value := .pointer (some ⟨sb, i * 19, none⟩)

/-- the list of prefix g, as the map holds it -/
def Row (W : World) (sb B : Nat) (o : Option Value) (l : List Nat) : Prop := W.ownsRow B 100 1 (o.getD (.slice none 0 0)) l.length (l.map (rp sb)) ∧ (o.isSome = true ↔ 0 < l.length)
def Rows (W : World) (sb B : Nat) (ps : List Ent) (L : Nat → List Nat) : Prop := (∀ g, g < 3 → Row W sb B (lookE g ps) (L g)) ∧ (∀ g g' v v', g ≠ g' → lookE g ps = some v → lookE g' ps = some v' → v.ownBlock ≠ v'.ownBlock)

/-- the fixed blocks: told apart, all below B -/
structure Ord (a4 a6 : Addr) (eb sb qb r B : Nat) : Prop where
  b3 : 3 ≤ eb
  l4 : a4.block < eb
  l6 : a6.block < eb
  es : eb < sb
  sr : sb < r
  rq : r < qb
  qB : qb < B

/-- the cells of the three resolutions -/
def Res (cs : Array Value) (eb : Nat) (m : Nat → Nat) (pl : Nat → Int) : Prop := cs.size = 57 ∧ ∀ i, i < 3 → cs[i * 19 + 10]? = some (.pointer (vp eb (m i))) ∧ cs[i * 19 + 14]? = some (.int .i64 (pl i))

structure St (W : World) (a4 a6 : Addr) (eb sb qb r B : Nat) (m : Nat → Nat) (pl : Nat → Int) (L : Nat → List Nat) : Prop where
  gl : Gl W a4 a6
  es : Blk W eb esC 34
  rib : ∃ cs, Blk W qb cs 96 ∧ cs[164]? = some (.map (some r))
  rs : ∃ cs, Blk W sb cs 55 ∧ Res cs eb m pl
  mp : ∃ ps c, W.heap[r]? = some (.map (ents (KK a4 a6) ps).toArray c) ∧ Plain.Good ps c ∧ Rows W sb B ps L
  bB : B ≤ W.heap.size

theorem Row.later {W W' : World} {sb B : Nat} {o : Option Value} {l : List Nat} (h : Row W sb B o l) (hb : ∀ b, B ≤ b → b < W.heap.size → W'.heap[b]? = W.heap[b]?) : Row W' sb B o l := by
  refine ⟨⟨h.1.1, ?_⟩, h.2⟩
  rcases h.1.2 with h1 | ⟨g, cap, cur, h1, h2, h3, h4⟩
  · exact .inl h1
  · exact .inr ⟨g, cap, cur, h1, h2, (hb g h2 (block_lt h3)).trans h3, h4⟩
theorem Rows.later {W W' : World} {sb B : Nat} {ps : List Ent} {L : Nat → List Nat} (h : Rows W sb B ps L) (hb : ∀ b, B ≤ b → b < W.heap.size → W'.heap[b]? = W.heap[b]?) : Rows W' sb B ps L :=
  ⟨fun g hg => (h.1 g hg).later hb, h.2⟩

section
variable {W W' : World} {a4 a6 : Addr} {eb sb qb r B : Nat} {m : Nat → Nat} {pl : Nat → Int} {L : Nat → List Nat}
theorem St.later (h : St W a4 a6 eb sb qb r B m pl L) (o : Ord a4 a6 eb sb qb r B) (hb : Below W.heap.size W W') : St W' a4 a6 eb sb qb r B m pl L := by
  have e1 := o.es; have e2 := o.sr; have e3 := o.rq; have e4 := o.qB; have e5 := h.bB
  obtain ⟨c1, g1, g2⟩ := h.rib
  obtain ⟨c2, g3, g4⟩ := h.rs
  obtain ⟨ps, c, g5, g6, g7⟩ := h.mp
  exact ⟨Gl.below h.gl hb, h.es.later (by omega) hb, ⟨c1, g1.later (by omega) hb, g2⟩, ⟨c2, g3.later (by omega) hb, g4⟩, ⟨ps, c, (hb.block r (by omega)).trans g5, g6, g7.later fun b _ hlt => hb.block b hlt⟩, Nat.le_trans h.bB hb.size⟩
theorem St.drew (h : St W a4 a6 eb sb qb r B m pl L) : St W.drew a4 a6 eb sb qb r B m pl L := ⟨⟨h.gl.c0, h.gl.c1, h.gl.c2, h.gl.h4, h.gl.h6, h.gl.ne⟩, h.es, h.rib, h.rs, h.mp, h.bB⟩

/-- a store into the resolutions -/
theorem St.set (h : St W a4 a6 eb sb qb r B m pl L) (o : Ord a4 a6 eb sb qb r B) (j : Nat) (v : Value) (m' : Nat → Nat) (pl' : Nat → Int)
    (hr : ∀ cs, Res cs eb m pl → Res (cs.setIfInBounds j v) eb m' pl') : St (W.setCell ⟨sb, j, none⟩ v) a4 a6 eb sb qb r B m' pl' L := by
  have e1 := o.es; have e2 := o.sr; have e3 := o.rq; have e4 := o.qB; have e5 := h.bB; have e6 := o.b3; have l4 := o.l4; have l6 := o.l6
  obtain ⟨c1, g1, g2⟩ := h.rib
  obtain ⟨c2, g3, g4⟩ := h.rs
  obtain ⟨ps, c, g5, g6, g7⟩ := h.mp
  have far : ∀ b, b ≠ sb → (W.setCell ⟨sb, j, none⟩ v).heap[b]? = W.heap[b]? := fun b hb => Below.heap_setCell W ⟨sb, j, none⟩ v b hb
  refine ⟨?_, h.es.other (by simp; omega) v, ⟨c1, g1.other (by simp; omega) v, g2⟩, ⟨_, g3.set j v, hr c2 g4⟩, ⟨ps, c, (far r (by omega)).trans g5, g6, g7.later fun b hb _ => far b (by omega)⟩, by simpa using h.bB⟩
  obtain ⟨cs4, t4, h4⟩ := h.gl.h4
  obtain ⟨cs6, t6, h6⟩ := h.gl.h6
  exact ⟨(World.cell?_of_block (far 0 (by omega))).trans h.gl.c0, (World.cell?_of_block (far 1 (by omega))).trans h.gl.c1, (World.cell?_of_block (far 2 (by omega))).trans h.gl.c2, ⟨cs4, t4, (far _ (by omega)).trans h4⟩, ⟨cs6, t6, (far _ (by omega)).trans h6⟩, h.gl.ne⟩
end

/-- the place of resolution x becomes p -/
theorem Res.place {cs : Array Value} {eb : Nat} {m : Nat → Nat} {pl : Nat → Int} (h : Res cs eb m pl) {x : Nat} (hx : x < 3) (p : Int) : Res (cs.setIfInBounds (x * 19 + 14) (.int .i64 p)) eb m (up pl x p) := by
  refine ⟨by simpa using h.1, fun i hi => ?_⟩
  have h57 := h.1
  rw [Array.getElem?_setIfInBounds_ne (by omega)]
  refine ⟨(h.2 i hi).1, ?_⟩
  by_cases e : i = x
  · subst e
    rw [Array.getElem?_setIfInBounds_self_of_lt (by omega), up_same]
  · rw [Array.getElem?_setIfInBounds_ne (by omega), up_other _ _ e]
    exact (h.2 i hi).2
/-- resolution x lands on entry k -/
theorem Res.via {cs : Array Value} {eb : Nat} {m : Nat → Nat} {pl : Nat → Int} (h : Res cs eb m pl) {x : Nat} (hx : x < 3) (k : Nat) : Res (cs.setIfInBounds (x * 19 + 10) (.pointer (vp eb k))) eb (up m x k) pl := by
  refine ⟨by simpa using h.1, fun i hi => ?_⟩
  have h57 := h.1
  rw [Array.getElem?_setIfInBounds_ne (i := x * 19 + 10) (j := i * 19 + 14) (by omega)]
  refine ⟨?_, (h.2 i hi).2⟩
  by_cases e : i = x
  · subst e
    rw [Array.getElem?_setIfInBounds_self_of_lt (by omega), up_same]
  · rw [Array.getElem?_setIfInBounds_ne (by omega), up_other _ _ e]
    exact (h.2 i hi).1
end Go.Proofs.YbulkbnzmDoor.Mem
