import Derived.Test.YbulkboaaCBase
import Derived.Test.YbulkboaaBBreach
import Derived.WalkKit
import Derived.ProofKit
import Derived.OpenShut
import Derived.ChangeOld
import Derived.Below
import Derived.Deep.Grids
namespace Go.Proofs.Ybulkboaa.BOpen
open Go.ChangeShapes Go.WideShapes Go.ChangeAt Go.RowKit
set_option linter.unusedVariables false
set_option maxRecDepth 100000

theorem cells45 : Yba.prog.cellsOf 45 = 1 := by kernel_rfl
theorem cells4 : Yba.prog.cellsOf 4 = 1 := by kernel_rfl

theorem byte_nat {n : Int} (h : (Lit.int .u8 n).wf = true) : ∃ m : Nat, n = (m : Int) ∧ m ≤ 255 := by
  have := bounds_u8 h
  exact ⟨n.toNat, by omega, by omega⟩
/-- a slice of numbers of 16 bits that came in -/
theorem open_words {H : Type} {enc : TypeId × Value → H} {w : World} {n : Nat} {v : Value} {x : DataW H × List MemPlace} (h : DataW.trod enc Yba.prog w 0 (fun _ => true) true n 35 [v] = some x) :
    ∃ (a : Option Addr) (len cap : Nat) (zs : List Nat), v = .slice a len cap ∧ len ≤ maxLen ∧ zs.length = len ∧ (∀ i, i < len → ∃ y, a = some y ∧ w.cell? (y.add i) = some (.int .u16 ((zs.getD i 0 : Nat) : Int))) ∧ ∀ i, zs.getD i 0 ≤ 65535 := by
  rcases open_ints Yba.underlying35 Yba.underlying45 cells45 h with ⟨hcs, _⟩ | ⟨y, l, c, zs, hcs, _, hl, hm, hz, _, hcell, hwz⟩
  · simp at hcs
    exact ⟨none, 0, 0, [], hcs, Nat.zero_le _, rfl, fun i hi => by omega, fun i => by simp⟩
  · simp at hcs
    simp only [if_true] at hz
    have hb : ∀ i, i < zs.length → 0 ≤ zs.getD i 0 ∧ zs.getD i 0 ≤ 65535 := fun i hi => by
      have hmem : zs.getD i 0 ∈ zs := by
        rw [List.getD_eq_getElem?_getD, List.getElem?_eq_getElem hi]
        simp
      exact bounds_u16 (hwz _ hmem)
    have hg : ∀ i, ((zs.map Int.toNat).take l).getD i 0 = if i < l then (zs.getD i 0).toNat else 0 := fun i => by
      by_cases hi : i < l
      · rw [if_pos hi]
        have hi' : i < zs.length := by omega
        simp [hi, hi']
      · rw [if_neg hi]
        rw [List.getD_eq_getElem?_getD, List.getElem?_eq_none (by simp; omega)]
        rfl
    refine ⟨some y, l, c, (zs.map Int.toNat).take l, hcs, Nat.le_trans hl hm, by simp; omega, fun i hi => ⟨y, rfl, ?_⟩, fun i => ?_⟩
    · rw [hcell i (by omega), hg i, if_pos hi]
      have := hb i (by omega)
      congr 2
      omega
    · rw [hg i]
      split
      · have := hb i (by omega); omega
      · omega

/-- a slice of truth values that came in -/
theorem open_marks {H : Type} {enc : TypeId × Value → H} {w : World} {n : Nat} {v : Value} {x : DataW H × List MemPlace} (h : DataW.trod enc Yba.prog w 0 (fun _ => true) true n 36 [v] = some x) :
    ∃ (a : Option Addr) (len cap : Nat) (bs : List Bool), v = .slice a len cap ∧ len ≤ maxLen ∧ ∀ i, i < len → ∃ y, a = some y ∧ w.cell? (y.add i) = some (.bool (bs.getD i false)) := by
  rcases Go.Deep.open_bools Yba.underlying36 Yba.underlying4 cells4 h with ⟨hcs, _⟩ | ⟨y, l, c, B, hcs, _, hl, hm, _, hcell⟩
  · simp at hcs
    exact ⟨none, 0, 0, [], hcs, Nat.zero_le _, fun i hi => by omega⟩
  · simp at hcs
    refine ⟨some y, l, c, (List.range l).map B, hcs, Nat.le_trans hl hm, fun i hi => ⟨y, rfl, ?_⟩⟩
    rw [hcell i (by omega)]
    simp [hi]

theorem law_big (k len cap glen gcap : Nat) (a ga : Option Addr) (ws vs ts fl : Nat) (he rd : Bool) (s : ByteArray) (w : World) (h1 : len ≤ maxLen) (h2 : glen ≤ maxLen) (hbig : 1024 < len ∨ 1024 < glen) :
    Calls Yba.prog 5 #[.int .u8 (k : Int), .slice a len cap, .slice ga glen gcap, .int .u8 (ws : Int), .int .u8 (vs : Int), .int .u8 (ts : Int), .bool he, .bool rd, .int .u8 (fl : Int), .string s] w fun e w' => e = .returned (.bool true) ∧ Below w.heap.size w w' := by
  unfold maxLen at h1 h2
  by_cases hb : 1024 < len
  · have hb' : (1024 : Int) < (len : Int) := by omega
    go_enter Yba.func5, Yba.ntmps5
    go_wp2
    go_ret
    exact ⟨rfl, Below.refl _ _⟩
  · have hb' : ¬ (1024 : Int) < (len : Int) := by omega
    have hg' : (1024 : Int) < (glen : Int) := by omega
    go_enter Yba.func5, Yba.ntmps5
    go_wp2
    go_ret
    exact ⟨rfl, Below.refl _ _⟩
end Go.Proofs.Ybulkboaa.BOpen
