import Derived.Test.YbulkbnzmFmtNode
import Derived.Deep.QuietTactic
import Derived.BigQuiet
import Derived.Lib.Builder
namespace Go.Proofs.YbulkbnzmFmt.Walk
open Go.RowKit Facts NodeW Go.Extern.Stop Go.Stop Go.Extern
set_option linter.unusedVariables false

theorem below_drewN {B : Nat} {a w : World} (h : Below B a w) (n : Nat) : Below B a (w.drewN n) := h.trans ⟨rfl, rfl, rfl, Nat.le_refl _, fun _ _ => rfl⟩

theorem info36 : (Ybaf.prog.info? 36).map (fun i => (i.zero, i.size, i.bytes)) = some (some (.agg #[.slice none 0 0]), 1, 24) := by kernel_rfl
/-- a pointer held against itself -/
theorem neq25 (a : Addr) (w : World) : (binOp .neq 25 (.pointer (some a)) (.pointer (some a))).run Ybaf.prog w = .ok (.bool false) w := by
  obtain ⟨i0, hi, _⟩ := info_parts info36
  exact Lib.run_neq_ptr_same w a Ybaf.underlying25 hi

theorem walk_no (F : Interp) (tag : Int) (path : ByteArray) (a : Option Addr) (len cap : Nat) (st : Bool) (w : World) (hF : F.answers w.tape) (h0 : 0 ≤ tag) (h1 : tag ≤ 255) (hlen : ¬ 1024 < len)
    (hr : tag % 7 = 2 ∨ tag % 7 = 3 ∨ tag % 7 = 4 ∨ tag % 7 = 5 ∨ tag % 7 = 6) :
    Calls Ybaf.prog 3 #[.int .u8 tag, .string path, .slice a len cap, .bool st] w fun e w' => e = .returned (.bool true) ∧ Below w.heap.size w w' := by
  have HR : Hid (tag % 7 = 2 ∨ tag % 7 = 3 ∨ tag % 7 = 4 ∨ tag % 7 = 5 ∨ tag % 7 = 6) := hr
  have HF : Hid (F.answers w.tape) := hF
  clear hr hF
  go_enter Ybaf.func3, Ybaf.ntmps3
  go_wp2_with fail
  refine (node2 tag path a len cap w h0 h1 HR.out).mono ?_
  rintro e w1 ⟨v, rfl, hv, hb⟩
  have HF1 : Hid (F.answers w1.tape) := by show F.answers w1.tape; rw [hb.tape]; exact HF.out
  rcases hv with rfl | ⟨T, x, rfl, hT⟩
  · go_wp2_with fail
    refine (of_nil F _ _ path st _ (by exact HF1.out)).mono ?_
    rintro e w2 ⟨⟨b, rfl⟩, hb2⟩
    go_wp2
    go_ret
    exact ⟨rfl, (hb.alloc hb.size _).trans (hb2.mono (by have := hb.size; simp; omega))⟩
  · have HT : Hid (T = 38 ∨ T = 46 ∨ T = 44 ∨ T = 47) := hT
    clear hT
    go_wp2_with fail
    refine (of_no F T x _ _ path st _ (by exact HF1.out) HT.out).mono ?_
    rintro e w2 ⟨⟨b, rfl⟩, hb2⟩
    go_wp2
    go_ret
    exact ⟨rfl, (hb.alloc hb.size _).trans (hb2.mono (by have := hb.size; simp; omega))⟩

theorem walk_nil (tag : Int) (path : ByteArray) (a : Option Addr) (len cap : Nat) (st : Bool) (w : World) (h0 : 0 ≤ tag) (h1 : tag ≤ 255) (hlen : ¬ 1024 < len) (hr : tag % 7 = 1) :
    Calls Ybaf.prog 3 #[.int .u8 tag, .string path, .slice a len cap, .bool st] w fun e w' => e = .returned (.bool true) ∧ Below w.heap.size w w' := by
  have HR : Hid (tag % 7 = 1) := hr
  clear hr
  go_enter Ybaf.func3, Ybaf.ntmps3
  go_wp2_with fail
  refine (node1 tag path a len cap w h0 h1 HR.out).mono ?_
  rintro e w1 ⟨rfl, hb⟩
  go_wp2_with fail
  refine (of_yes none _ _ path st _).mono ?_
  rintro e w2 ⟨rfl, hb2⟩
  go_wp2
  go_ret
  exact ⟨rfl, (hb.alloc hb.size _).trans (hb2.mono (by have := hb.size; simp; omega))⟩

theorem walk_big (tag : Int) (path : ByteArray) (a : Option Addr) (len cap : Nat) (st : Bool) (w : World) (hlen : 1024 < len) (hm : len ≤ maxLen) :
    Calls Ybaf.prog 3 #[.int .u8 tag, .string path, .slice a len cap, .bool st] w fun e w' => e = .returned (.bool true) ∧ Below w.heap.size w w' := by
  unfold maxLen at hm
  go_enter Ybaf.func3, Ybaf.ntmps3
  go_wp2
  go_ret
  exact ⟨rfl, Below.refl _ _⟩

set_option maxRecDepth 100000 in
set_option maxHeartbeats 800000 in
theorem walk_yes (tag : Int) (path : ByteArray) (a : Option Addr) (len cap : Nat) (ss : List ByteArray) (st : Bool) (w : World) (h0 : 0 ≤ tag) (h1 : tag ≤ 255) (hlen : ¬ 1024 < len) (hs : SRow w a len cap ss) (hr : tag % 7 = 0) :
    Calls Ybaf.prog 3 #[.int .u8 tag, .string path, .slice a len cap, .bool st] w fun e w' => e = .returned (.bool true) ∧ Below w.heap.size w w' := by
  have HR : Hid (tag % 7 = 0) := hr
  have HS : Hid (SRow w a len cap ss) := hs
  clear hr hs
  have hq := neq25
  go_enter Ybaf.func3, Ybaf.ntmps3
  go_wp2_with fail
  refine (node0 tag path a len cap ss w h0 h1 (by omega) HS.out HR.out).mono ?_
  rintro e w1 ⟨vo, vcap, rfl, hc, hown, hb⟩
  go_wp2_with fail
  refine (of_yes (some ⟨w.heap.size, 0, none⟩) _ _ path st _).mono ?_
  rintro e w2 ⟨rfl, hb2⟩
  have hsz := hb.size
  have hlt0 := World.block_lt_of_cell? w1 _ hc
  have hbel : Below w.heap.size w w2 := (hb.alloc hb.size _).trans (hb2.mono (by simp; omega))
  have hb3 := ((Below.refl w1.heap.size w1).alloc (Nat.le_refl _) _).trans (hb2.mono (B' := w1.heap.size) (by simp))
  have hc2 : w2.cell? ⟨w.heap.size, 0, none⟩ = some (.slice vo len vcap) := (hb3.cell (p := ⟨w.heap.size, 0, none⟩) hlt0).trans hc
  obtain ⟨hl, vo', vcap', hv, hnc, hcp⟩ := mem_view hown
  obtain ⟨rfl, rfl⟩ : vo = vo' ∧ vcap = vcap' := by simpa using hv
  have HC : Hid (∀ i, i < len → ∃ g, vo = some ⟨g, 0, none⟩ ∧ w2.cell? ⟨g, i * 4, none⟩ = some (.string ⟨#[109]⟩) ∧ w2.cell? ⟨g, i * 4 + 1, none⟩ = some (.string (ss.getD i ByteArray.empty))) := by
    intro i hi
    obtain ⟨g, hg, _, hgl, e0, e1⟩ := hcp i hi
    exact ⟨g, hg, (hb3.cell (p := ⟨g, i * 4, none⟩) hgl).trans e0, (hb3.cell (p := ⟨g, i * 4 + 1, none⟩) hgl).trans e1⟩
  have HS2 : Hid (SRow w2 a len cap ss) := srow_later HS.out hbel
  clear hc hown hb hb2 hb3 hv hcp hl HS hlt0 hsz
  go_wp2
  go_loopw [15] (fun i wr => ∃ k : Nat, k ≤ len ∧ i = .int .i64 k ∧ ∃ nq, wr = w2.drewN nq) (fun i _ => len - (intOf i).toNat)
  case atStart => exact ⟨0, Nat.zero_le _, rfl, 0, rfl⟩
  case round =>
    obtain ⟨k, hk, rfl, nq, rfl⟩ := hrel
    by_cases hlt : k < len
    · obtain ⟨x, rfl, hx⟩ := HS2.out.2 k hlt
      obtain ⟨g, rfl, e0, e1⟩ := HC.out k hlt
      have hlt' : (k : Int) < (len : Int) := by omega
      generalize ss.getD k ByteArray.empty = s at *
      go_wp2
      go_quiet (fail)
      go_wp2
      go_roundw
      case rel => exact ⟨k + 1, by omega, by go_num, _, rfl⟩
      case measure => simp [intOf]; omega
    · go_wp2
      go_ret
      exact ⟨rfl, below_drewN hbel _⟩
end Go.Proofs.YbulkbnzmFmt.Walk
