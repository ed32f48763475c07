import Derived.Test.YbulkbnzmDoorLaid
import Derived.Test.YbulkbnzmDoorTie
import Derived.Test.YbulkbnzmDoorCards
import Derived.Deep.SlicePairs
import Derived.SevenTiedAt
import Derived.Below
import Derived.Handy
import Derived.Lay
namespace Go.Proofs.YbulkbnzmDoor.RowP
open Go.ChangeShapes Go.WideShapes Go.ChangeAt Go.WideElems Go.RowKit Base Laid Law1
set_option linter.unusedVariables false
set_option maxRecDepth 100000

theorem own : ownKnob Ybad.prog.godebug = none := by kernel_rfl
theorem laidOut : laidOutB Ybad.prog = true := by kernel_rfl
theorem c98 : Ybad.prog.cellsOf 98 = 2 := by kernel_rfl
theorem c5 : Ybad.prog.cellsOf 5 = 1 := by kernel_rfl

def byteOf : Value → Nat
  | .int _ n => n.toNat
  | _ => 0

theorem byte_cell {H : Type} {enc : TypeId × Value → H} {w : World} {n : Nat} {v : Value} {x : DataW H × List MemPlace} (h : DataW.trod enc Ybad.prog w 0 (fun _ => true) true n 5 [v] = some x) : v = .int .u8 (byteOf v : Int) ∧ byteOf v ≤ 255 := by
  obtain ⟨k, e1, _, hwf⟩ := DataW.trod_int Ybad.underlying5 h
  simp at e1
  subst e1
  have hb := bounds_u8 hwf
  simp only [byteOf]
  exact ⟨by congr 1; omega, by omega⟩

/-- the script, opened -/
theorem open_ops {H : Type} {enc : TypeId × Value → H} {w : World} {r : Reach} {b0 : Nat} {v : Value} {d : DataW H} {p : List MemPlace} (hv : Value.okWide Ybad.prog w r b0 22 v) (h : DataW.Trod enc Ybad.prog w 0 (fun _ => true) true 22 v d p) :
    ∃ (a : Option Addr) (len cap : Nat) (us vs : List Nat), v = .slice a len cap ∧ len ≤ maxLen ∧
      (∀ i, i < len → ∃ x, a = some x ∧ w.cell? (x.add (i * 2)) = some (.int .u8 ((us.getD i 0 : Nat) : Int)) ∧ w.cell? ((x.add (i * 2)).add 1) = some (.int .u8 ((vs.getD i 0 : Nat) : Int))) ∧ ∀ i, us.getD i 0 ≤ 255 ∧ vs.getD i 0 ≤ 255 := by
  obtain ⟨a, len, cap, rfl⟩ := okWide_slice Ybad.underlying22 hv
  obtain ⟨fuel, hf⟩ := h
  rcases Go.Deep.open_slice_pairs Ybad.underlying22 Ybad.underlying98 c98 rfl rfl c5 c5 hf with ⟨hcs, _⟩ | ⟨x, len', cap', m, n, V0, V1, D0, D1, P0, P1, hcs, _, hl, hm, hmm, _, hx⟩
  · simp [Value.cells] at hcs
    obtain ⟨rfl, rfl, rfl⟩ := hcs
    exact ⟨none, 0, 0, [], [], rfl, Nat.zero_le _, fun i hi => by omega, fun i => by simp⟩
  · simp [Value.cells] at hcs
    obtain ⟨rfl, rfl, rfl⟩ := hcs
    simp only [if_true] at hmm
    have hin : ∀ i, i < len → byteOf (V0 i) ≤ 255 ∧ byteOf (V1 i) ≤ 255 := fun i hi => by
      obtain ⟨_, _, h2, h3⟩ := hx i (by omega)
      exact ⟨(byte_cell h2).2, (byte_cell h3).2⟩
    have hg : ∀ (f : Nat → Nat) (i : Nat), i < len → ((List.range len).map f).getD i 0 = f i := fun f i hi => by
      rw [List.getD_eq_getElem?_getD, List.getElem?_map, List.getElem?_range hi]; rfl
    refine ⟨some x, len, cap, (List.range len).map fun i => byteOf (V0 i), (List.range len).map fun i => byteOf (V1 i), rfl, Nat.le_trans hl hm, fun i hi => ⟨x, rfl, ?_, ?_⟩, fun i => ?_⟩
    · obtain ⟨h0, _, h2, _⟩ := hx i (by omega)
      rw [hg _ i hi, ← (byte_cell h2).1]; exact h0
    · obtain ⟨_, h1, _, h3⟩ := hx i (by omega)
      rw [hg _ i hi, Go.Deep.add_add, ← (byte_cell h3).1]; exact h1
    · by_cases hi : i < len
      · rw [hg _ i hi, hg _ i hi]; exact hin i hi
      · rw [List.getD_eq_getElem?_getD, List.getElem?_eq_none (by simp; omega), List.getD_eq_getElem?_getD, List.getElem?_eq_none (by simp; omega)]
        simp

/-- a script of more than 1024 steps is not walked -/
theorem law_big (a : Option Addr) (len cap : Nat) (hlen : 1024 < len) (hm : len ≤ maxLen) (w : World) :
    Calls Ybad.prog 3 #[.slice a len cap] w fun e w' => e = .returned (.bool true) ∧ Below w.heap.size w w' := by
  have h1 : (1024 : Int) < (len : Int) := by omega
  go_enter Ybad.func3, Ybad.ntmps3
  go_wp2
  go_ret
  exact ⟨rfl, Below.refl _ _⟩

theorem lifted (os : Os) (started : os.Started) (H : Type) (enc : TypeId × Value → H) :
    ReturnsInHanded {} Ybad.checked os 3 .any (fun w args => (Rows.lawS3236CDependentsSpec.pre enc Ybad.prog Ybad.f3 [] false w args ∧ laidMetH Ybad.prog Rows.lawS3236CDependentsRow.laid w) ∧ sizedMet enc Ybad.prog Ybad.f3 (OpenSpec.ofChange Rows.lawS3236CDependentsSpec) false w args)
      (Rows.lawS3236CDependentsSpec.post enc Ybad.prog Ybad.f3 false true false false) := by
  refine returnsInHanded_of_change_and (C := Ybad.checked) (X := fun w _ => laidMetH Ybad.prog Rows.lawS3236CDependentsRow.laid w) (fun _ _ _ hh h => h.of_heap hh) own started (by kernel_rfl) Ybad.func3
    (ChangeSpec.witness_shaped (enc := enc) (C := Ybad.checked) (os := os) (X := fun w _ => laidMetH Ybad.prog Rows.lawS3236CDependentsRow.laid w) false (World.laidAll Ybad.prog os Rows.lawS3236CDependentsRow.laid) #[.slice none 0 0] 8 (World.laidAll_os _ _ _)
      (World.shaped_of_ZipB (by kernel_rfl) (by kernel_rfl)) (by kernel_rfl) (by kernel_rfl) (by kernel_rfl)
      (by rw [MakeChecks.laidMetH_plain _ _ _ (by kernel_rfl)]; exact laidMet_laidAll _ (by kernel_rfl) (by kernel_rfl))) ?_
  intro W base args ds gs before hval0 hW _ _ hL _
  have hval : ∀ (j : Nat) t v, Ybad.f3.params[j]? = some t → args[j]? = some v → Value.okWide Ybad.prog W .any base t v := hval0
  have hW' := hW
  obtain ⟨p, q, hA0, hV, rfl, hfz, hnd⟩ := hW
  have hA : DataW.TrodAll enc Ybad.prog W 0 (fun _ => true) true Ybad.f3.params.toList args.toList ds p := hA0
  rw [Ybad.params3] at hA hval
  obtain ⟨v0, vs0, d0, ds0, p0, q0, hargs, rfl, rfl, h0, r0⟩ := trodAll_cons hA
  obtain ⟨rfl, rfl, rfl⟩ := trodAll_nil r0
  obtain rfl : args = #[v0] := by cases args; simp_all
  obtain ⟨rfl, rfl⟩ := trodVars_none hV
  have k0 := h0
  have lt0 : ∀ x ∈ p0, x.block < W.heap.size := by obtain ⟨m, hm⟩ := k0; exact DataW.trod_lt m _ _ _ hm
  obtain ⟨a, len, cap, us, vs, rfl, hm, hrow, hby⟩ := open_ops (hval 0 22 v0 rfl rfl) h0
  obtain ⟨a4, a6, hG⟩ := of_laid hL
  clear hA0 hval0
  have hwalk : Calls Ybad.prog 3 #[.slice a len cap] W fun e w' => e = .returned (.bool true) ∧ Below W.heap.size W w' := by
    by_cases hbig : 1024 < len
    · exact law_big a len cap hbig hm W
    · exact law_any a len cap (by omega) a4 a6 W hG us vs hrow hby
  refine hwalk.mono fun e W' ⟨he, bel⟩ => ?_
  subst he
  exact ⟨_, rfl, _, _, _, [], _, [], hW', trodAll_mk1 (shut_bool Ybad.underlying4 _), (trodAll_cons_mk (Below.trod laidOut (by kernel_rfl) (of_decide_eq_true (by kernel_rfl)) k0 bel lt0) trodAll_mk0), rfl, bel.frame _, fun h => by cases h⟩

theorem over : Rows.lawS3236CDependentsRow.holds Ybad.pinned (OpenSpec.ofChange Rows.lawS3236CDependentsSpec) :=
  OpenClaim.holds_of_wide 3 Ybad.f3 rfl rfl rfl rfl rfl rfl rfl ⟨rfl, rfl, rfl, rfl, rfl⟩ rfl rfl rfl rfl rfl (by kernel_rfl) Ybad.func3 (by kernel_rfl)
    (of_decide_eq_true (by kernel_rfl)) (by unfold Func.isWrapper; first | (rw [if_pos (by decide +kernel)]; kernel_rfl) | (rw [if_neg (by decide +kernel)]; exact ⟨rfl, rfl⟩))
    (fun os started H enc _ => lifted os started H enc)

theorem card_holds : Rows.LawS3236CDependentsCardSaid :=
  Claim7.holds_tied_plain_at .later [] [.called, .called, .zero] true (true, "37f4d5d064c46cb84aaf116db23e2248861dd81f2e02b141f382381e43baae40") false
    over (fun _ h => by cases h) (by kernel_rfl) (fun _ h => by cases h) lawS3236CDependents_row_tie rfl ⟨rfl, rfl⟩ (by kernel_rfl) rfl
    (fun f fn hf hfn => by
      obtain rfl : f = 3 := Option.some.inj ((show Ybad.prog.funcNamed "example.com/prefixforge/prefixforge/rib.LawS3236CDependents" = some 3 by kernel_rfl).symm.trans hf) |>.symm
      obtain rfl : fn = Ybad.f3 := (Option.some.inj (Ybad.func3.symm.trans hfn)).symm
      exact ⟨by kernel_rfl, fun j t ht => by
        rw [Ybad.params3] at ht
        have h3 : t = 22 := by
          rcases j with _ | j
          · simpa using ht.symm
          · simp at ht
        subst h3
        exact (show Ybad.prog.wantsStandIn 22 = false by kernel_rfl)⟩)
    (by kernel_rfl)
end Go.Proofs.YbulkbnzmDoor.RowP

namespace Go.Proofs.YbulkbnzmDoor
theorem lawS3236CDependentsCard_proved : Rows.LawS3236CDependentsCardSaid := RowP.card_holds
end Go.Proofs.YbulkbnzmDoor
