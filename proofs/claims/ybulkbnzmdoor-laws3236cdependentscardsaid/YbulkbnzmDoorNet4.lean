import Derived.Test.YbulkbnzmDoorNet3
import Derived.Deep.MidRow
namespace Go.Proofs.YbulkbnzmDoor.Net4
open Go.RowKit MapLaw Base Net Net2 Net3
set_option linter.unusedVariables false
set_option maxRecDepth 100000

abbrev l16 : List Value := [.int .u8 0x20, .int .u8 1, .int .u8 0, .int .u8 0, .int .u8 0, .int .u8 0, .int .u8 0, .int .u8 0, .int .u8 0, .int .u8 0, .int .u8 0, .int .u8 0, .int .u8 0, .int .u8 0, .int .u8 0, .int .u8 0]
theorem size23 : (Ybad.prog.info? 23).map (·.size) = some l16.length := by kernel_rfl

theorem range_later {W W' : World} {b o B : Nat} {cs : List Value} (h : W.rangeAt b o cs) (hb : Below B W W') (hl : b < B) : W'.rangeAt b o cs := fun j v hv => (hb.cell (p := ⟨b, o + j, none⟩) hl).trans (h j v hv)

theorem pk6 {w : World} {a4 a6 : Addr} {eb o : Nat} {W W' : World} (hl : ∀ W2, PSt w a4 a6 W2 → eb < W2.heap.size)
    (h : W.rangeAt eb o l16 ∧ W.cell? ⟨eb, o + 34, none⟩ = some (.int .u8 16) ∧ PSt w a4 a6 W) (hb : Below W.heap.size W W') :
    W'.rangeAt eb o l16 ∧ W'.cell? ⟨eb, o + 34, none⟩ = some (.int .u8 16) ∧ PSt w a4 a6 W' := by
  obtain ⟨g0, g1, gp⟩ := h
  have hl := hl W gp
  exact ⟨range_later g0 hb hl, (hb.cell (p := ⟨eb, o + 34, none⟩) hl).trans g1, gp.later hb⟩
theorem pk7 {w : World} {a4 a6 : Addr} {eb o : Nat} {W : World}
    (h : W.rangeAt eb o l16 ∧ W.cell? ⟨eb, o + 34, none⟩ = some (.int .u8 16) ∧ PSt w a4 a6 W)
    (h3 : 3 ≤ w.heap.size) (l4 : a4.block < w.heap.size) (l6 : a6.block < w.heap.size) (le : eb < w.heap.size) (v0 v1 v2 v3 : Value) :
    ((((W.setCell ⟨w.heap.size, 0, none⟩ v0).setCell ⟨w.heap.size, 1, none⟩ v1).setCell ⟨w.heap.size, 2, none⟩ v2).setCell ⟨w.heap.size, 3, none⟩ v3).rangeAt eb o l16 ∧ ((((W.setCell ⟨w.heap.size, 0, none⟩ v0).setCell ⟨w.heap.size, 1, none⟩ v1).setCell ⟨w.heap.size, 2, none⟩ v2).setCell ⟨w.heap.size, 3, none⟩ v3).cell? ⟨eb, o + 34, none⟩ = some (.int .u8 16) ∧ PSt w a4 a6 ((((W.setCell ⟨w.heap.size, 0, none⟩ v0).setCell ⟨w.heap.size, 1, none⟩ v1).setCell ⟨w.heap.size, 2, none⟩ v2).setCell ⟨w.heap.size, 3, none⟩ v3) := by
  obtain ⟨g0, g1, gp⟩ := h
  have hb : Below w.heap.size W ((((W.setCell ⟨w.heap.size, 0, none⟩ v0).setCell ⟨w.heap.size, 1, none⟩ v1).setCell ⟨w.heap.size, 2, none⟩ v2).setCell ⟨w.heap.size, 3, none⟩ v3) := ((((Below.refl _ _).setCell (by simp) _).setCell (by simp) _).setCell (by simp) _).setCell (by simp) _
  exact ⟨range_later g0 hb le, (hb.cell (p := ⟨eb, o + 34, none⟩) le).trans g1, gp.store h3 l4 l6 _ _ _ _⟩

set_option maxHeartbeats 3200000 in
theorem prefix6 (eb o : Nat) (a4 a6 : Addr) (w : World) (hg : Gl w a4 a6) (hc : w.rangeAt eb o l16 ∧ w.cell? ⟨eb, o + 34, none⟩ = some (.int .u8 16))
    (cf : w.cell? ⟨eb, o + 37, none⟩ = some (.int .u8 0)) :
    Calls Ybad.prog 13 #[.pointer (some ⟨eb, o, none⟩)] w fun e w' => e = .returned (.agg #[.int .u64 0x2001000000000000, .int .u64 0, .pointer (some a6), .int .u8 17]) ∧ Below w.heap.size w w' := by
  have h3 := Gl.three hg
  have le := World.block_lt_of_cell? w _ hc.2
  simp only at le
  have hB : Below w.heap.size w (w.alloc (.cells #[.int .u64 0, .int .u64 0, .pointer none, .int .u8 0] 43)) := (Below.refl _ _).alloc (Nat.le_refl _) _
  have hR := Blk.new w #[.int .u64 0, .int .u64 0, .pointer none, .int .u8 0] 43
  have hg' := Gl.alloc hg (.cells #[.int .u64 0, .int .u64 0, .pointer none, .int .u8 0] 43)
  replace cf := (hB.cell (p := ⟨eb, o + 37, none⟩) le).trans cf
  have r16 := range_later hc.1 hB le
  have b16 := (hB.cell (p := ⟨eb, o + 34, none⟩) le).trans hc.2
  have HL : Hid (a4.block < w.heap.size ∧ a6.block < w.heap.size) := ⟨hg.lt4, hg.lt6⟩
  have ls : (w.alloc (.cells #[.int .u64 0, .int .u64 0, .pointer none, .int .u8 0] 43)).heap.size = w.heap.size + 1 := by simp
  obtain ⟨W, hW⟩ : ∃ W, W = w.alloc (.cells #[.int .u64 0, .int .u64 0, .pointer none, .int .u8 0] 43) := ⟨_, rfl⟩
  rw [← hW] at hB hR hg' r16 b16 cf ls
  have HS0 : Hid (W.drew.rangeAt eb o l16 ∧ W.drew.cell? ⟨eb, o + 34, none⟩ = some (.int .u8 16) ∧ PSt w a4 a6 W.drew) := ⟨r16, b16, PSt.drew ⟨hg', hB, by rw [ls]; omega, _, rfl, hR⟩⟩
  have HLT : Hid (∀ W2, PSt w a4 a6 W2 → eb < W2.heap.size) := fun W2 h => Nat.lt_trans le h.2.2.1
  clear hB hR hg' hg ls hc r16 b16
  go_enter Ybad.func13, Ybad.ntmps13
  go_wp2_with (go_at_call 16; rw [← hW]; clear hW; refine (has_any eb o 0 false (by simp) _ cf).mono ?_; rintro e w' ⟨rfl, rfl⟩)
  clear cf
  have h23 := size23
  have u23 := Ybad.underlying23
  go_region_held3 (fun w2 => w2.rangeAt eb o l16 ∧ w2.cell? ⟨eb, o + 34, none⟩ = some (.int .u8 16) ∧ PSt w a4 a6 w2)
    ((first | exact HS0.out | exact pk6 HLT.out (by assumption) (by assumption) | exact pk7 (by assumption) h3 HL.out.1 HL.out.2 le _ _ _ _))
    (first
      | (go_at_call 6; have hS1 : _ ∧ _ ∧ PSt w a4 a6 _ := (by assumption); refine (addrFrom16_any a4 a6 _ (PSt.gl hS1.2.2)).mono ?_; clear hS1; rintro e w2 ⟨rfl, hb⟩)
      | (go_at_call 4; have hS2 : _ ∧ _ ∧ PSt w a4 a6 _ := (by assumption); refine (prefixFrom_a6 0x2001000000000000 0 16 (by simp) a4 a6 _ (PSt.gl hS2.2.2)).mono ?_; rintro e w3 ⟨rfl, hb⟩; have hp3 := (PSt.later hS2.2.2 hb); have HP3 : Hid (PSt w a4 a6 w3) := hp3; clear hS2; obtain ⟨csr, hcsr, hblk⟩ := hp3.2.2.2; obtain ⟨ra, rb, rc, rd, rfl⟩ := four hcsr; have s0 := hblk.cell 0 _ rfl; have s1 := hblk.cell 1 _ rfl; have s2 := hblk.cell 2 _ rfl; have s3 := hblk.cell 3 _ rfl; have f0 := hblk.frozen 0; have f1 := hblk.frozen 1; have f2 := hblk.frozen 2; have f3 := hblk.frozen 3; clear hp3 hblk hcsr))
  go_wp2
  exact ret43 Ybad.results13 _ _ _ _ rfl (HP3.out.fin _ _ _ _) rfl rfl rfl ⟨rfl, (PSt.store HP3.out h3 HL.out.1 HL.out.2 _ _ _ _).2.1⟩
end Go.Proofs.YbulkbnzmDoor.Net4
