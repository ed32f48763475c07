import Derived.Test.YbulkbnzmFmtFacts
import Derived.Deep.RegionLaw
import Derived.Deep.AppendLies
import Derived.OwnWalk
namespace Go.Proofs.YbulkbnzmFmt.NodeW
open Go.RowKit Facts
set_option linter.unusedVariables false

theorem info29 : (Ybaf.prog.info? 29).map (fun i => (i.zero, i.size, i.bytes)) = some (some (.agg #[.string ⟨#[]⟩, .string ⟨#[]⟩, .nilIface, .bool false]), 4, 56) := by kernel_rfl

/-- a slice of strings that came in -/
def SRow (w : World) (a : Option Addr) (len cap : Nat) (ss : List ByteArray) : Prop :=
  ss.length = len ∧ ∀ i, i < len → ∃ x, a = some x ∧ w.cell? (x.add i) = some (.string (ss.getD i ByteArray.empty))

theorem srow_later {w w' : World} {a : Option Addr} {len cap : Nat} {ss : List ByteArray} (h : SRow w a len cap ss) (hb : Below w.heap.size w w') : SRow w' a len cap ss :=
  ⟨h.1, fun i hi => by
    obtain ⟨x, hx, hc⟩ := h.2 i hi
    have hlt := World.block_lt_of_cell? w _ hc
    exact ⟨x, hx, (hb.cell hlt).trans hc⟩⟩

/-- the cells of the members that bear the names -/
def memCells (ss : List ByteArray) : List Value := ss.flatMap fun s => [.string ⟨#[109]⟩, .string s, .nilIface, .bool false]

theorem memCells_length (ss : List ByteArray) : (memCells ss).length = ss.length * 4 := by
  induction ss with
  | nil => rfl
  | cons a l ih =>
    have : memCells (a :: l) = [.string ⟨#[109]⟩, .string a, .nilIface, .bool false] ++ memCells l := rfl
    rw [this, List.length_append, ih]; simp; omega

theorem memCells_snoc (ss : List ByteArray) (k : Nat) (hk : k < ss.length) :
    memCells (ss.take (k + 1)) = memCells (ss.take k) ++ [.string ⟨#[109]⟩, .string (ss.getD k ByteArray.empty), .nilIface, .bool false] := by
  rw [List.take_succ_eq_append_getElem hk]
  unfold memCells
  rw [List.flatMap_append]
  simp [List.getD_eq_getElem?_getD, hk]

theorem memCells_get (ss : List ByteArray) (i : Nat) (h : i < ss.length) :
    (memCells ss)[i * 4]? = some (.string ⟨#[109]⟩) ∧ (memCells ss)[i * 4 + 1]? = some (.string (ss.getD i ByteArray.empty)) := by
  induction ss generalizing i with
  | nil => simp at h
  | cons a l ih =>
    have e : memCells (a :: l) = .string ⟨#[109]⟩ :: .string a :: .nilIface :: .bool false :: memCells l := rfl
    rw [e]
    cases i with
    | zero => simp
    | succ i =>
      have := ih i (by simpa using h)
      have h1 : (i + 1) * 4 = i * 4 + 1 + 1 + 1 + 1 := by omega
      simp only [h1, List.getElem?_cons_succ, List.getD_cons_succ]
      exact this

/-- what the members read as -/
theorem mem_view {w : World} {base : Nat} {v : Value} {n : Nat} {ss : List ByteArray} (h : w.ownsRow base 29 4 v n (memCells ss)) :
    ss.length = n ∧ ∃ vo vcap, v = .slice vo n vcap ∧ n ≤ vcap ∧ ∀ i, i < n → ∃ g, vo = some ⟨g, 0, none⟩ ∧ base ≤ g ∧ g < w.heap.size ∧
      w.cell? ⟨g, i * 4, none⟩ = some (.string ⟨#[109]⟩) ∧ w.cell? ⟨g, i * 4 + 1, none⟩ = some (.string (ss.getD i ByteArray.empty)) := by
  have hl : ss.length = n := by have := h.1; rw [memCells_length] at this; omega
  refine ⟨hl, ?_⟩
  rcases h.2 with ⟨hv, hn⟩ | ⟨g, cap, cur, hv, hb, hg, hnc, hcm, hcs, ht⟩
  · subst hn
    exact ⟨none, 0, hv, Nat.le_refl _, fun i hi => by omega⟩
  · refine ⟨some ⟨g, 0, none⟩, cap, hv, hnc, fun i hi => ⟨g, rfl, hb, (h.lt g (by rw [hv]; rfl)).2, ?_⟩⟩
    subst hv
    have hd := memCells_get ss i (by omega)
    exact ⟨(h.cellAt _ (by omega)).trans hd.1, (h.cellAt _ (by omega)).trans hd.2⟩

/-- one more member appended and stored: what the round leaves -/
theorem node_round {w wr w1 : World} {B : Nat} {o : Obj} {vo : Option Addr} {k vcap gg cap1 : Nat} {xs news ys : List Value}
    (hc : wr.cell? ⟨B, 0, none⟩ = some (.slice vo k vcap)) (hf : wr.frozen? ⟨B, 0, none⟩ = false) (hown : wr.ownsRow (B + 1) 29 4 (.slice vo k vcap) k xs) (hb : Below B w wr) (hsz : B < wr.heap.size)
    (hown1 : w1.ownsRow (B + 1) 29 4 (.slice (some ⟨gg, 0, none⟩) (k + 1) cap1) (k + 1) (xs ++ news)) (hgr : (wr.alloc o).drew.grownBy w1 (Value.slice vo k vcap).ownBlock) (he : ys = xs ++ news) :
    (w1.setCell ⟨B, 0, none⟩ (.slice (some ⟨gg, 0, none⟩) (k + 1) cap1)).cell? ⟨B, 0, none⟩ = some (.slice (some ⟨gg, 0, none⟩) (k + 1) cap1) ∧
    (w1.setCell ⟨B, 0, none⟩ (.slice (some ⟨gg, 0, none⟩) (k + 1) cap1)).frozen? ⟨B, 0, none⟩ = false ∧
    (w1.setCell ⟨B, 0, none⟩ (.slice (some ⟨gg, 0, none⟩) (k + 1) cap1)).ownsRow (B + 1) 29 4 (.slice (some ⟨gg, 0, none⟩) (k + 1) cap1) (k + 1) ys ∧
    Below B w (w1.setCell ⟨B, 0, none⟩ (.slice (some ⟨gg, 0, none⟩) (k + 1) cap1)) ∧ B < (w1.setCell ⟨B, 0, none⟩ (.slice (some ⟨gg, 0, none⟩) (k + 1) cap1)).heap.size := by
  have hnb : (Value.slice vo k vcap).ownBlock ≠ some B := fun e => by have := (hown.lt _ e).1; omega
  have hsz1 : wr.heap.size + 1 ≤ w1.heap.size := by have := hgr.size; simpa using this
  have c1 := hgr.cell_far ⟨B, 0, none⟩ (by simp; omega) (Ne.symm hnb)
  have f1 := hgr.frozen_far ⟨B, 0, none⟩ (by simp; omega) (Ne.symm hnb)
  have bel : Below B wr (wr.alloc o).drew := ((Below.refl _ _).alloc (by omega) o).drew
  have c2 : (wr.alloc o).drew.cell? ⟨B, 0, none⟩ = wr.cell? ⟨B, 0, none⟩ := World.cell?_of_block (w := wr) (Below.heap_alloc _ _ _ hsz)
  have f2 : (wr.alloc o).drew.frozen? ⟨B, 0, none⟩ = wr.frozen? ⟨B, 0, none⟩ := World.frozen?_of_block (w := wr) (Below.heap_alloc _ _ _ hsz)
  refine ⟨World.cell?_setCell_same _ _ _ (c1.trans (c2.trans hc)), ?_, ?_, ?_, by simp; omega⟩
  · simp [f1, f2, hf]
  · rw [he]
    exact ownsRow_setCell_below hown1 (by simp) _
  · exact ((hb.trans bel).grown hgr (by simp; omega) (fun j hj => by have := (hown.lt j hj).1; omega)).setCell (by simp) _

set_option maxRecDepth 100000 in
set_option maxHeartbeats 1600000 in
theorem node0 (tag : Int) (path : ByteArray) (a : Option Addr) (len cap : Nat) (ss : List ByteArray) (w : World) (h0 : 0 ≤ tag) (h1 : tag ≤ 255) (hlen : len ≤ 1024) (hs : SRow w a len cap ss) (hr : tag % 7 = 0) :
    Calls Ybaf.prog 4 #[.int .u8 tag, .string path, .slice a len cap] w fun e w' => ∃ vo vcap, e = .returned (.tuple #[.iface 25 (.pointer (some ⟨w.heap.size, 0, none⟩)), .pointer (some ⟨w.heap.size, 0, none⟩), .bool true]) ∧
      w'.cell? ⟨w.heap.size, 0, none⟩ = some (.slice vo len vcap) ∧ w'.ownsRow (w.heap.size + 1) 29 4 (.slice vo len vcap) len (memCells ss) ∧ Below w.heap.size w w' := by
  have HS : Hid (SRow w a len cap ss) := hs
  clear hs
  obtain ⟨i0, hi, hz0, hz1, hz2⟩ := info_parts info29
  go_enter Ybaf.func4, Ybaf.ntmps4
  go_wp2
  clear hr
  go_loopw [10] (fun i wr => ∃ k : Nat, k ≤ len ∧ i = .int .i64 k ∧ ∃ vo vcap, wr.cell? ⟨w.heap.size, 0, none⟩ = some (.slice vo k vcap) ∧ wr.frozen? ⟨w.heap.size, 0, none⟩ = false ∧ wr.ownsRow (w.heap.size + 1) 29 4 (.slice vo k vcap) k (memCells (ss.take k)) ∧ Below w.heap.size w wr ∧ w.heap.size < wr.heap.size)
    (fun i _ => len - (intOf i).toNat)
  case atStart => exact ⟨0, Nat.zero_le _, rfl, none, 0, by simp, by simp, World.ownsRow_nil _ _ _ _, (Below.refl _ _).alloc (Nat.le_refl _) _, by simp⟩
  case round =>
    obtain ⟨k, hk, rfl, vo, vcap, hc, hf, hown, hb, hsz⟩ := hrel
    by_cases hlt : k < len
    · obtain ⟨x, rfl, hx0⟩ := HS.out.2 k hlt
      have hxl := World.block_lt_of_cell? w _ hx0
      have hx : wr.cell? (x.add k) = some (.string (ss.getD k ByteArray.empty)) := (hb.cell hxl).trans hx0
      have hlt' : (k : Int) < (len : Int) := by omega
      have HM : Hid (memCells (ss.take (k + 1)) = memCells (ss.take k) ++ [.string ⟨#[109]⟩, .string (ss.getD k ByteArray.empty), .nilIface, .bool false]) := memCells_snoc ss k (by rw [HS.out.1]; exact hlt)
      have HX : Hid ((x.add k).block < w.heap.size) := hxl
      clear hx0 hxl
      generalize ss.getD k ByteArray.empty = s at *
      have hnb : (Value.slice vo k vcap).ownBlock ≠ some w.heap.size := fun e => by have := (hown.lt _ e).1; omega
      have hnx : (Value.slice vo k vcap).ownBlock ≠ some (x.add k).block := fun e => by have h1 := (hown.lt _ e).1; have h2 := HX.out; omega
      go_wp2_with fail
      go_region_law ((refine step_append_lies _ (by rfl) _ _ _ (by rfl) (w.heap.size + 1) 29 i0 _ 4 56 Ybaf.underlying34 hi hz0 hz1 hz2 rfl (by omega) (.slice vo k vcap) k (memCells (ss.take k)) (by rfl) ((hown.alloc _).drew) ⟨wr.heap.size, 0, none⟩ 1 1 [.string ⟨#[109]⟩, .string s, .nilIface, .bool false] (by rfl) (by rfl) (World.news_of_block (cs := #[.string ⟨#[109]⟩, .string s, .nilIface, .bool false]) (t := 29) (fr := (0, 0)) (heap_alloc_new wr _)) (by simp [Value.oneCell']) (by omega) (by unfold maxLen; omega) (by omega) (by simp; omega) (wr.heap.size + 1) (by simp) ?_; intro gg cap1 w1 hown1 hgrow hat hlt1; have hc1 := (hgrow.cell_far ⟨w.heap.size, 0, none⟩ (by simp; omega) (Ne.symm hnb)); have hf1 := (hgrow.frozen_far ⟨w.heap.size, 0, none⟩ (by simp; omega) (Ne.symm hnb))))
      all_goals
        have R := node_round hc hf hown hb hsz hown1 hgrow HM.out
        clear hown1 hgrow hat hlt1 hc1 hf1 hc hf hown hb hsz hi hz0 hz1 hz2 hx
        go_wp2
        go_roundw
        case rel => first | exact ⟨k + 1, by omega, by go_num, _, _, R.1, R.2.1, R.2.2.1, R.2.2.2.1, R.2.2.2.2⟩ | ((repeat apply Exists.intro); exact ⟨⟨k + 1, by omega, by go_num, _, _, R.1, R.2.1, R.2.2.1, R.2.2.2.1, R.2.2.2.2⟩, rfl⟩)
        case measure => simp [intOf]; omega
    · obtain rfl : k = len := by omega
      have hw : memCells (ss.take k) = memCells ss := by rw [List.take_of_length_le (by rw [HS.out.1]; exact Nat.le_refl _)]
      rw [hw] at hown
      go_wp2
      go_ret3
      exact ⟨vo, vcap, rfl, hc, hown, hb⟩

/-- a nil container -/
theorem node1 (tag : Int) (path : ByteArray) (a : Option Addr) (len cap : Nat) (w : World) (h0 : 0 ≤ tag) (h1 : tag ≤ 255) (hr : tag % 7 = 1) :
    Calls Ybaf.prog 4 #[.int .u8 tag, .string path, .slice a len cap] w fun e w' => e = .returned (.tuple #[.iface 25 (.pointer none), .pointer none, .bool true]) ∧ Below w.heap.size w w' := by
  go_enter Ybaf.func4, Ybaf.ntmps4
  go_wp2
  go_ret3
  exact ⟨rfl, Below.refl _ _⟩

/-- what is no container -/
theorem node2 (tag : Int) (path : ByteArray) (a : Option Addr) (len cap : Nat) (w : World) (h0 : 0 ≤ tag) (h1 : tag ≤ 255) (hr : tag % 7 = 2 ∨ tag % 7 = 3 ∨ tag % 7 = 4 ∨ tag % 7 = 5 ∨ tag % 7 = 6) :
    Calls Ybaf.prog 4 #[.int .u8 tag, .string path, .slice a len cap] w fun e w' => ∃ v, e = .returned (.tuple #[v, .pointer none, .bool false]) ∧
      (v = .nilIface ∨ ∃ T x, v = .iface T x ∧ (T = 38 ∨ T = 46 ∨ T = 44 ∨ T = 47)) ∧ Below w.heap.size w w' := by
  rcases hr with hr | hr | hr | hr | hr
  all_goals
    go_enter Ybaf.func4, Ybaf.ntmps4
    go_wp2
    go_ret3
  · exact ⟨_, rfl, .inr ⟨38, _, rfl, by decide⟩, ((Below.refl _ _).alloc (Nat.le_refl _) _).alloc (by simp) _⟩
  · exact ⟨_, rfl, .inr ⟨46, _, rfl, by decide⟩, (Below.refl _ _).alloc (Nat.le_refl _) _⟩
  · exact ⟨_, rfl, .inr ⟨44, _, rfl, by decide⟩, Below.refl _ _⟩
  · exact ⟨_, rfl, .inl rfl, Below.refl _ _⟩
  · exact ⟨_, rfl, .inr ⟨47, _, rfl, by decide⟩, (Below.refl _ _).alloc (Nat.le_refl _) _⟩
end Go.Proofs.YbulkbnzmFmt.NodeW
