import Derived.Test.YbulkboaaRows
import Derived.WalkKit
import Derived.ProofKit
import Derived.OpenShut
import Derived.ChangeOld
import Derived.Below
namespace Go.Proofs.Ybulkboaa.COpen
open Go.ChangeShapes Go.WideShapes Go.ChangeAt Go.RowKit
set_option linter.unusedVariables false
set_option maxRecDepth 100000

theorem cells104 : Yba.prog.cellsOf 104 = 7 := by kernel_rfl
theorem cells4 : Yba.prog.cellsOf 4 = 1 := by kernel_rfl
theorem cells5 : Yba.prog.cellsOf 5 = 1 := by kernel_rfl
theorem cells102 : Yba.prog.cellsOf 102 = 1 := by kernel_rfl

theorem array7 {α : Type} {cs : Array α} (h : cs.size = 7) : ∃ c0 c1 c2 c3 c4 c5 c6, cs = #[c0, c1, c2, c3, c4, c5, c6] := by
  obtain ⟨l⟩ := cs
  match l, h with
  | [c0, c1, c2, c3, c4, c5, c6], _ => exact ⟨c0, c1, c2, c3, c4, c5, c6, rfl⟩

theorem byte_nat {n : Int} (h : (Lit.int .u8 n).wf = true) : ∃ m : Nat, n = (m : Int) ∧ m ≤ 255 := by
  have := bounds_u8 h
  exact ⟨n.toNat, by omega, by omega⟩

/-- a slice of bytes that came in -/
theorem open_bytes {H : Type} {enc : TypeId × Value → H} {w : World} {n : Nat} {v : Value} {x : DataW H × List MemPlace} (h : DataW.trod enc Yba.prog w 0 (fun _ => true) true n 102 [v] = some x) :
    ∃ (a : Option Addr) (len cap : Nat) (zs : List Nat), v = .slice a len cap ∧ len ≤ maxLen ∧ zs.length = len ∧ (∀ i, i < len → ∃ y, a = some y ∧ w.cell? (y.add i) = some (.int .u8 ((zs.getD i 0 : Nat) : Int))) ∧ ∀ i, zs.getD i 0 ≤ 255 := by
  rcases open_ints Yba.underlying102 Yba.underlying5 cells5 h with ⟨hcs, _⟩ | ⟨y, l, c, zs, hcs, _, hl, hm, hz, _, hcell, hwz⟩
  · simp at hcs
    exact ⟨none, 0, 0, [], hcs, Nat.zero_le _, rfl, fun i hi => by omega, fun i => by simp⟩
  · simp at hcs
    simp only [if_true] at hz
    have hb : ∀ i, i < zs.length → 0 ≤ zs.getD i 0 ∧ zs.getD i 0 ≤ 255 := fun i hi => by
      have hmem : zs.getD i 0 ∈ zs := by
        rw [List.getD_eq_getElem?_getD, List.getElem?_eq_getElem hi]
        simp
      exact bounds_u8 (hwz _ hmem)
    have hg : ∀ i, ((zs.map Int.toNat).take l).getD i 0 = if i < l then (zs.getD i 0).toNat else 0 := fun i => by
      by_cases hi : i < l
      · rw [if_pos hi]
        have hi' : i < zs.length := by omega
        simp [hi, hi']
      · rw [if_neg hi]
        rw [List.getD_eq_getElem?_getD, List.getElem?_eq_none (by simp; omega)]
        rfl
    refine ⟨some y, l, c, (zs.map Int.toNat).take l, hcs, Nat.le_trans hl hm, by simp; omega, fun i hi => ⟨y, rfl, ?_⟩, fun i => ?_⟩
    · rw [hcell i (by omega), hg i, if_pos hi]
      have := hb i (by omega)
      congr 2
      omega
    · rw [hg i]
      split
      · have := hb i (by omega); omega
      · omega

/-- the law's argument, opened -/
theorem open_case {H : Type} {enc : TypeId × Value → H} {w : World} {r : Reach} {b0 : Nat} {v : Value} {d : DataW H} {p : List MemPlace} (hv : Value.okWide Yba.prog w r b0 104 v) (h : DataW.Trod enc Yba.prog w 0 (fun _ => true) true 104 v d p) :
    ∃ (mu : Bool) (ho ki f0 f1 qu : Nat) (a : Option Addr) (len cap : Nat) (zs : List Nat), v = .agg #[.bool mu, .int .u8 ho, .int .u8 ki, .int .u8 f0, .int .u8 f1, .slice a len cap, .int .u8 qu] ∧
      ho ≤ 255 ∧ ki ≤ 255 ∧ f0 ≤ 255 ∧ f1 ≤ 255 ∧ qu ≤ 255 ∧ len ≤ maxLen ∧ zs.length = len ∧ (∀ i, i < len → ∃ y, a = some y ∧ w.cell? (y.add i) = some (.int .u8 ((zs.getD i 0 : Nat) : Int))) ∧ ∀ i, zs.getD i 0 ≤ 255 := by
  obtain ⟨cs, rfl, hsz⟩ := okWide_struct Yba.underlying104 hv
  obtain ⟨c0, c1, c2, c3, c4, c5, c6, rfl⟩ := array7 (hsz.trans cells104)
  obtain ⟨fuel, hf⟩ := h
  obtain ⟨xs, n, _, _, hl, hlen, hfs⟩ := DataW.trod_struct Yba.underlying104 hf
  have hlen' : xs.length = 7 := hlen
  match xs, hlen' with
  | [y0, y1, y2, y3, y4, y5, y6], _ =>
    have t0 := hfs 0 _ rfl
    have t1 := hfs 1 _ rfl
    have t2 := hfs 2 _ rfl
    have t3 := hfs 3 _ rfl
    have t4 := hfs 4 _ rfl
    have t5 := hfs 5 _ rfl
    have t6 := hfs 6 _ rfl
    simp [Value.cells, cells4, cells5, cells102] at t0 t1 t2 t3 t4 t5 t6
    obtain ⟨mu, e0, _⟩ := DataW.trod_bool Yba.underlying4 t0
    obtain ⟨n1, e1, _, q1⟩ := DataW.trod_int Yba.underlying5 t1
    obtain ⟨n2, e2, _, q2⟩ := DataW.trod_int Yba.underlying5 t2
    obtain ⟨n3, e3, _, q3⟩ := DataW.trod_int Yba.underlying5 t3
    obtain ⟨n4, e4, _, q4⟩ := DataW.trod_int Yba.underlying5 t4
    obtain ⟨n6, e6, _, q6⟩ := DataW.trod_int Yba.underlying5 t6
    obtain ⟨a, len, cap, zs, e5, hm, hz, hr, hby⟩ := open_bytes t5
    simp at e0 e1 e2 e3 e4 e6
    obtain ⟨m1, rfl, b1⟩ := byte_nat q1
    obtain ⟨m2, rfl, b2⟩ := byte_nat q2
    obtain ⟨m3, rfl, b3⟩ := byte_nat q3
    obtain ⟨m4, rfl, b4⟩ := byte_nat q4
    obtain ⟨m6, rfl, b6⟩ := byte_nat q6
    subst e0 e1 e2 e3 e4 e5 e6
    exact ⟨mu, m1, m2, m3, m4, m6, a, len, cap, zs, rfl, b1, b2, b3, b4, b6, hm, hz, hr, hby⟩
end Go.Proofs.Ybulkboaa.COpen
