import Derived.Test.YbulkbnxiRows
import Derived.WalkKit
import Derived.BigQuiet
import Derived.Laws.AppendOwnNone
import Derived.WalkSpells
namespace Go.Proofs.Ybulkbnxi.Base
open Go.RowKit
set_option linter.unusedVariables false

theorem info2 : (Yba.prog.info? 2).map (fun i => (i.zero, i.size, i.bytes)) = some (some (.int .i64 0), 1, 8) := by kernel_rfl

/-- WHAT A WALK IS TOLD OF A SLICE OF INTEGERS THAT CAME IN: each element under its number. -/
def Row (w : World) (a : Option Addr) (len cap : Nat) (zs : List Int) : Prop :=
  zs.length = len ∧ (a = none → len = 0 ∧ cap = 0) ∧ len ≤ cap ∧ ∀ i, i < len → ∃ x, a = some x ∧ w.cell? (x.add i) = some (.int .i64 (zs.getD i 0))

/-- what a slice of the call's own reads as -/
theorem owns_view {w : World} {base e : Nat} {v : Value} {n : Nat} {zs : List Int} (h : w.ownsRow base e 1 v n (zs.map (Value.int .i64))) :
    zs.length = n ∧ ∃ vo vcap, v = .slice vo n vcap ∧ n ≤ vcap ∧ ∀ i, i < n → ∃ g, vo = some ⟨g, 0, none⟩ ∧ base ≤ g ∧ g < w.heap.size ∧ w.cell? ⟨g, i, none⟩ = some (.int .i64 (zs.getD i 0)) := by
  have hl : zs.length = n := by have := h.1; simpa using this
  refine ⟨hl, ?_⟩
  rcases h.2 with ⟨hv, hn⟩ | ⟨g, cap, cur, hv, hb, hg, hnc, hcm, hcs, ht⟩
  · subst hn
    exact ⟨none, 0, hv, Nat.le_refl _, fun i hi => by omega⟩
  · refine ⟨some ⟨g, 0, none⟩, cap, hv, hnc, fun i hi => ⟨g, rfl, hb, ?_, ?_⟩⟩
    · exact (h.lt g (by rw [hv]; rfl)).2
    · subst hv
      rw [h.cellAt i (by omega)]
      simp only [List.getElem?_map, List.getD_eq_getElem?_getD]
      rw [List.getElem?_eq_getElem (by omega)]
      simp

theorem below_drewN {B : Nat} {a w : World} (h : Below B a w) (n : Nat) : Below B a (w.drewN n) := h.trans ⟨rfl, rfl, rfl, Nat.le_refl _, fun _ _ => rfl⟩

/-- a row that came in reads the same in a later world -/
theorem row_later {w w' : World} {a : Option Addr} {len cap : Nat} {zs : List Int} (h : Row w a len cap zs) (hb : Below w.heap.size w w') : Row w' a len cap zs :=
  ⟨h.1, h.2.1, h.2.2.1, fun i hi => by
    obtain ⟨x, hx, hc⟩ := h.2.2.2 i hi
    have hlt := World.block_lt_of_cell? w _ hc
    exact ⟨x, hx, (hb.cell hlt).trans hc⟩⟩

theorem grownBy_refl (w : World) (r : Option Nat) : w.grownBy w r := ⟨rfl, rfl, rfl, Nat.le_refl _, fun _ _ _ => rfl⟩

/-- append([]int64(nil), xs...) whatever xs is: nil, empty, or not -/
theorem append_any {P : Program} (w : World) {ops : Array Oper} {rest : List Oper} {o : Oper} {a : Act} {Q : Exit → Act → World → Prop} (hgd : o.guard = none) (s x : Operand) (t : TypeId)
    (ho : o.op = .call { callee := .builtin .append, args := #[s, x], argTypes := #[t, t] })
    (base : Nat) (e : TypeId) (i : TypeInfo) (ht : P.underlying t = some (.slice e)) (hi : P.info? e = some i) (hz : i.zero = some (.int .i64 0))
    (hsize : i.size = 1) (hby : i.bytes = 8) (hs : a.eval s = .slice none 0 0)
    (ao : Option Addr) (m c : Nat) (zs : List Int) (hx : a.eval x = .slice ao m c) (hr : Row w ao m c zs)
    (h63 : m ≤ 1024) (hbase : base ≤ w.heap.size)
    (h : ∀ vo vcap w', w'.ownsRow base e 1 (.slice vo m vcap) m (zs.map (Value.int .i64)) → w.grownBy w' none → wpList P ops Q rest (a.put o.dst (.slice vo m vcap)) w') : wpList P ops Q (o :: rest) a w := by
  obtain ⟨hlen, hnil, hlc, hcell⟩ := hr
  cases ao with
  | none =>
    obtain ⟨rfl, rfl⟩ := hnil rfl
    obtain rfl : zs = [] := List.length_eq_zero_iff.1 hlen
    exact wpList_append_own_none hgd s x t ho base e i 1 ht hi _ 0 [] hs (World.ownsRow_nil _ _ _ _) hx (h _ _ _ (World.ownsRow_nil _ _ _ _) (grownBy_refl _ _))
  | some ad =>
    refine wpList_append_own w hgd s x t ho base e i (.int .i64 0) 1 8 ht hi hz hsize hby rfl (by decide) _ _ _ hs (World.ownsRow_nil _ _ _ _) ad m c (zs.map (Value.int .i64)) hx (by simpa using hlen) ?_ ?_ (by simp [maxLen]; omega) (by omega) hbase ?_
    · intro j u hj
      simp only [List.getElem?_map, Option.map_eq_some_iff] at hj
      obtain ⟨z, hz', rfl⟩ := hj
      have hjl : j < zs.length := by
        rcases Nat.lt_or_ge j zs.length with h | h
        · exact h
        · rw [List.getElem?_eq_none h] at hz'; cases hz'
      obtain ⟨x', hx', hc'⟩ := hcell j (by omega)
      cases hx'
      rw [hc', List.getD_eq_getElem?_getD, hz']
      rfl
    · intro u hu
      simp only [List.mem_map] at hu
      obtain ⟨z, _, rfl⟩ := hu
      rfl
    · intro v' w' h1 h2 _
      have h1' : w'.ownsRow base e 1 v' m (zs.map (Value.int .i64)) := by simpa using h1
      obtain ⟨_, vo, vcap, rfl, _⟩ := owns_view h1'
      exact h vo vcap w' h1' h2

/-- (*Keeper).lastRecorded: nothing recorded -/
theorem last_none (b : Nat) (ao : Option Addr) (cap : Nat) (w : World) (hc : w.cell? ⟨b, 12, none⟩ = some (.slice ao 0 cap)) :
    Calls Yba.prog 5 #[.pointer (some ⟨b, 0, none⟩)] w fun e w' => e = .returned (.int .i64 0) ∧ w' = w := by
  go_enter Yba.func5, Yba.ntmps5
  go_wp2
  go_ret
  exact ⟨rfl, rfl⟩

theorem last_some (b : Nat) (x : Addr) (n cap : Nat) (z : Int) (w : World) (hn : n + 1 ≤ 1024) (hnc : n + 1 ≤ cap) (hc : w.cell? ⟨b, 12, none⟩ = some (.slice (some x) (n + 1) cap))
    (hz : w.cell? (x.add n) = some (.int .i64 z)) :
    Calls Yba.prog 5 #[.pointer (some ⟨b, 0, none⟩)] w fun e w' => e = .returned (.int .i64 z) ∧ w' = w := by
  go_enter Yba.func5, Yba.ntmps5
  go_wp2
  go_ret
  exact ⟨rfl, rfl⟩

/-- the last of a list of numbers, 0 where there is none -/
def lastOf (zs : List Int) : Int := zs.getLast?.getD 0

theorem lastOf_take_succ (zs : List Int) (k : Nat) (h : k < zs.length) : lastOf (zs.take (k + 1)) = zs.getD k 0 := by
  unfold lastOf
  rw [List.take_succ_eq_append_getElem h, List.getLast?_concat]
  simp [List.getD_eq_getElem?_getD, h]

theorem lastOf_eq (zs : List Int) (n : Nat) (h : zs.length = n + 1) : lastOf zs = zs.getD n 0 := by
  have := lastOf_take_succ zs n (by omega)
  rwa [List.take_of_length_le (by omega)] at this

/-- (*Keeper).lastRecorded, whatever was recorded -/
theorem last_any (b base e : Nat) (v : Value) (n : Nat) (zs : List Int) (w : World) (hn : n ≤ 1024) (hown : w.ownsRow base e 1 v n (zs.map (Value.int .i64)))
    (hc : w.cell? ⟨b, 12, none⟩ = some v) :
    Calls Yba.prog 5 #[.pointer (some ⟨b, 0, none⟩)] w fun e w' => e = .returned (.int .i64 (lastOf zs)) ∧ w' = w := by
  obtain ⟨hl, vo, vcap, rfl, hnc, hcell⟩ := owns_view hown
  cases n with
  | zero =>
    obtain rfl : zs = [] := List.length_eq_zero_iff.1 hl
    exact last_none b vo vcap w hc
  | succ n =>
    obtain ⟨g, rfl, _, _, hz⟩ := hcell n (by omega)
    rw [lastOf_eq zs n hl]
    exact last_some b ⟨g, 0, none⟩ n vcap _ w hn hnc hc (by rw [show (⟨g, 0, none⟩ : Addr).add n = ⟨g, n, none⟩ by cases n <;> simp [Addr.add]]; exact hz)
end Go.Proofs.Ybulkbnxi.Base
