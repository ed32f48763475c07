import Derived.Test.YbulkbnzmDoorNet2
namespace Go.Proofs.YbulkbnzmDoor.Net3
open Go.RowKit MapLaw Base Net Net2
set_option linter.unusedVariables false
set_option maxRecDepth 100000

theorem bDrewN {B : Nat} {a w : World} (h : Below B a w) (n : Nat) : Below B a (w.drewN n) := ⟨h.os, h.tape, h.output, h.size, h.block⟩

def v16 : Array Value := #[.int .u8 0x20, .int .u8 1, .int .u8 0, .int .u8 0, .int .u8 0, .int .u8 0, .int .u8 0, .int .u8 0, .int .u8 0, .int .u8 0, .int .u8 0, .int .u8 0, .int .u8 0, .int .u8 0, .int .u8 0, .int .u8 0]

/-- what the eight bytes from o on come to -/
def bev (o : Nat) : Int := if o = 0 then 0x2001000000000000 else 0
theorem be_both (b o c t : Nat) (w : World) (h : Blk w b v16 t) (ho : (o = 0 ∧ c = 16) ∨ (o = 8 ∧ c = 8)) :
    Calls Ybad.prog 12 #[.slice (some ⟨b, o, none⟩) 8 c] w fun e w' => e = .returned (.int .u64 (bev o)) ∧ ∃ n, w' = w.drewN n := by
  rcases ho with ⟨rfl, rfl⟩ | ⟨rfl, rfl⟩
  · exact be_any b 0 16 0x20 1 (by simp) w (h.cell 0 _ rfl) (h.cell 1 _ rfl) (h.cell 2 _ rfl) (h.cell 3 _ rfl) (h.cell 4 _ rfl) (h.cell 5 _ rfl) (h.cell 6 _ rfl) (h.cell 7 _ rfl)
  · exact be_any b 8 8 0 0 (by simp) w (h.cell 8 _ rfl) (h.cell 9 _ rfl) (h.cell 10 _ rfl) (h.cell 11 _ rfl) (h.cell 12 _ rfl) (h.cell 13 _ rfl) (h.cell 14 _ rfl) (h.cell 15 _ rfl)

set_option maxHeartbeats 1600000 in
theorem addrFrom16_any (a4 a6 : Addr) (w : World) (hg : Gl w a4 a6) :
    Calls Ybad.prog 6 #[.agg #[.int .u8 0x20, .int .u8 1, .int .u8 0, .int .u8 0, .int .u8 0, .int .u8 0, .int .u8 0, .int .u8 0, .int .u8 0, .int .u8 0, .int .u8 0, .int .u8 0, .int .u8 0, .int .u8 0, .int .u8 0, .int .u8 0]] w fun e w' => e = .returned (ad 0x2001000000000000 0 a6) ∧ Below w.heap.size w w' := by
  have h3 := Gl.three hg
  have T := Blk.two w v16 #[.int .u64 0, .int .u64 0, .pointer none] 23 41
  have g1 := (hg.later h3 hg.lt4 hg.lt6 T.2.2).c1
  have HT : Hid _ := T
  clear T hg
  go_enter Ybad.func6, Ybad.ntmps6
  have g1 := g1
  unfold v16 at HT g1
  go_wp2
  obtain ⟨W, hW⟩ : ∃ W, W = ((w.alloc (.cells #[.int .u8 0x20, .int .u8 1, .int .u8 0, .int .u8 0, .int .u8 0, .int .u8 0, .int .u8 0, .int .u8 0, .int .u8 0, .int .u8 0, .int .u8 0, .int .u8 0, .int .u8 0, .int .u8 0, .int .u8 0, .int .u8 0] 23)).alloc (.cells #[.int .u64 0, .int .u64 0, .pointer none] 41)) := ⟨_, rfl⟩
  rw [← hW] at HT g1 ⊢
  clear hW
  have HV : Hid (Blk W w.heap.size v16 23) := HT.out.1
  have l0 := HT.out.2.1.cell 0 _ rfl
  have l1 := HT.out.2.1.cell 1 _ rfl
  have l2 := HT.out.2.1.cell 2 _ rfl
  have f0 := HT.out.2.1.frozen 0
  have f1 := HT.out.2.1.frozen 1
  have f2 := HT.out.2.1.frozen 2
  go_region_with (go_at_call 12; refine (be_both w.heap.size _ _ 23 _ (by exact HV.out) (by simp)).mono ?_; rintro e w' ⟨rfl, nn, rfl⟩)
  all_goals
    go_wp2
    exact ret41 Ybad.results6 _ _ _ _ rfl ((((HT.out.2.1.drewN _).set 0 _).set 1 _).set 2 _) rfl rfl rfl ⟨rfl, (((bDrewN HT.out.2.2 _).setCell (by simp) _).setCell (by simp) _).setCell (by simp) _⟩

theorem has_any (eb o : Nat) (fl : Int) (r : Bool) (hf : (fl = 8 ∧ r = true) ∨ (fl = 24 ∧ r = true) ∨ (fl = 0 ∧ r = false)) (w : World) (c : w.cell? ⟨eb, o + 37, none⟩ = some (.int .u8 fl)) :
    Calls Ybad.prog 16 #[.pointer (some ⟨eb, o, none⟩), .int .u8 8] w fun e w' => e = .returned (.bool r) ∧ w' = w := by
  have o1 : bits .and .u8 8 8 = 8 := by decide +kernel
  have o2 : bits .and .u8 24 8 = 8 := by decide +kernel
  have o3 : bits .and .u8 0 8 = 0 := by decide +kernel
  rcases hf with ⟨rfl, rfl⟩ | ⟨rfl, rfl⟩ | ⟨rfl, rfl⟩
  all_goals
    go_enter Ybad.func16, Ybad.ntmps16
    go_wp2
    go_ret
    exact ⟨rfl, rfl⟩

/-- what is kept while a prefix is made: the variables, the old memory, the result's block -/
def PSt (w : World) (a4 a6 : Addr) (W : World) : Prop := Gl W a4 a6 ∧ Below w.heap.size w W ∧ w.heap.size < W.heap.size ∧ ∃ cs, cs.size = 4 ∧ Blk W w.heap.size cs 43
theorem PSt.later {w W W' : World} {a4 a6 : Addr} (h : PSt w a4 a6 W) (hb : Below W.heap.size W W') : PSt w a4 a6 W' := by
  obtain ⟨h1, h2, h3, cs, h4, h5⟩ := h
  exact ⟨Gl.below h1 hb, h2.trans (hb.mono (by omega)), by have := hb.size; omega, cs, h4, h5.later h3 hb⟩
theorem PSt.drew {w W : World} {a4 a6 : Addr} (h : PSt w a4 a6 W) : PSt w a4 a6 W.drew := h.later ((Below.refl _ _).drew)
theorem PSt.gl {w W : World} {a4 a6 : Addr} (h : PSt w a4 a6 W) : Gl W a4 a6 := h.1
theorem four {cs : Array Value} (h : cs.size = 4) : ∃ a b c d, cs = #[a, b, c, d] := by
  obtain ⟨l⟩ := cs
  match l, h with
  | [a, b, c, d], _ => exact ⟨a, b, c, d, rfl⟩
theorem PSt.store {w W : World} {a4 a6 : Addr} (h : PSt w a4 a6 W) (h3 : 3 ≤ w.heap.size) (l4 : a4.block < w.heap.size) (l6 : a6.block < w.heap.size) (p q r s : Value) :
    PSt w a4 a6 ((((W.setCell ⟨w.heap.size, 0, none⟩ p).setCell ⟨w.heap.size, 1, none⟩ q).setCell ⟨w.heap.size, 2, none⟩ r).setCell ⟨w.heap.size, 3, none⟩ s) := by
  obtain ⟨h1, h2, h3', cs, h4, h5⟩ := h
  have hb : Below w.heap.size W ((((W.setCell ⟨w.heap.size, 0, none⟩ p).setCell ⟨w.heap.size, 1, none⟩ q).setCell ⟨w.heap.size, 2, none⟩ r).setCell ⟨w.heap.size, 3, none⟩ s) := ((((Below.refl _ _).setCell (by simp) _).setCell (by simp) _).setCell (by simp) _).setCell (by simp) _
  exact ⟨h1.later h3 l4 l6 hb, h2.trans hb, by simpa using h3', _, by simpa using h4, (((h5.set 0 p).set 1 q).set 2 r).set 3 s⟩
theorem PSt.fin {w W : World} {a4 a6 : Addr} (h : PSt w a4 a6 W) (p q r s : Value) :
    Blk ((((W.setCell ⟨w.heap.size, 0, none⟩ p).setCell ⟨w.heap.size, 1, none⟩ q).setCell ⟨w.heap.size, 2, none⟩ r).setCell ⟨w.heap.size, 3, none⟩ s) w.heap.size #[p, q, r, s] 43 := by
  obtain ⟨h1, h2, h3', cs, h4, h5⟩ := h
  obtain ⟨a, b, c, d, rfl⟩ := four h4
  exact (((h5.set 0 p).set 1 q).set 2 r).set 3 s

theorem arr46 (W : World) (a : Addr) : (Instr.arrayAt 46 (.slice (some a) 4 16)).run Ybad.prog W = .ok (.pointer (some a)) W := by
  simp [Instr.arrayAt, run_underlying Ybad.underlying46]
theorem pk4 {w : World} {a4 a6 : Addr} {eb o : Nat} {p q r s t : Value} {W W' : World} (hl : ∀ W2, PSt w a4 a6 W2 → eb < W2.heap.size)
    (h : W.cell? ⟨eb, o, none⟩ = some p ∧ W.cell? ⟨eb, o + 1, none⟩ = some q ∧ W.cell? ⟨eb, o + 2, none⟩ = some r ∧ W.cell? ⟨eb, o + 3, none⟩ = some s ∧ W.cell? ⟨eb, o + 34, none⟩ = some t ∧ PSt w a4 a6 W) (hb : Below W.heap.size W W') :
    W'.cell? ⟨eb, o, none⟩ = some p ∧ W'.cell? ⟨eb, o + 1, none⟩ = some q ∧ W'.cell? ⟨eb, o + 2, none⟩ = some r ∧ W'.cell? ⟨eb, o + 3, none⟩ = some s ∧ W'.cell? ⟨eb, o + 34, none⟩ = some t ∧ PSt w a4 a6 W' := by
  obtain ⟨h0, h1, h2, h3, h4, h5⟩ := h
  have hl := hl W h5
  exact ⟨(hb.cell (p := ⟨eb, o, none⟩) hl).trans h0, (hb.cell (p := ⟨eb, o + 1, none⟩) hl).trans h1, (hb.cell (p := ⟨eb, o + 2, none⟩) hl).trans h2, (hb.cell (p := ⟨eb, o + 3, none⟩) hl).trans h3, (hb.cell (p := ⟨eb, o + 34, none⟩) hl).trans h4, h5.later hb⟩
theorem cell_set_far {W : World} {b o c i : Nat} {v : Value} (h : b ≠ c) : (W.setCell ⟨c, i, none⟩ v).cell? ⟨b, o, none⟩ = W.cell? ⟨b, o, none⟩ :=
  ((Below.refl c W).setCell (p := ⟨c, i, none⟩) (Nat.le_refl _) v) |> fun _ => World.cell?_of_block (Below.heap_setCell W ⟨c, i, none⟩ v b h)
theorem pk5 {w : World} {a4 a6 : Addr} {eb o : Nat} {p q r s t : Value} {W : World}
    (h : W.cell? ⟨eb, o, none⟩ = some p ∧ W.cell? ⟨eb, o + 1, none⟩ = some q ∧ W.cell? ⟨eb, o + 2, none⟩ = some r ∧ W.cell? ⟨eb, o + 3, none⟩ = some s ∧ W.cell? ⟨eb, o + 34, none⟩ = some t ∧ PSt w a4 a6 W)
    (h3 : 3 ≤ w.heap.size) (l4 : a4.block < w.heap.size) (l6 : a6.block < w.heap.size) (le : eb < w.heap.size) (v0 v1 v2 v3 : Value) :
    ((((W.setCell ⟨w.heap.size, 0, none⟩ v0).setCell ⟨w.heap.size, 1, none⟩ v1).setCell ⟨w.heap.size, 2, none⟩ v2).setCell ⟨w.heap.size, 3, none⟩ v3).cell? ⟨eb, o, none⟩ = some p ∧ ((((W.setCell ⟨w.heap.size, 0, none⟩ v0).setCell ⟨w.heap.size, 1, none⟩ v1).setCell ⟨w.heap.size, 2, none⟩ v2).setCell ⟨w.heap.size, 3, none⟩ v3).cell? ⟨eb, o + 1, none⟩ = some q ∧
    ((((W.setCell ⟨w.heap.size, 0, none⟩ v0).setCell ⟨w.heap.size, 1, none⟩ v1).setCell ⟨w.heap.size, 2, none⟩ v2).setCell ⟨w.heap.size, 3, none⟩ v3).cell? ⟨eb, o + 2, none⟩ = some r ∧ ((((W.setCell ⟨w.heap.size, 0, none⟩ v0).setCell ⟨w.heap.size, 1, none⟩ v1).setCell ⟨w.heap.size, 2, none⟩ v2).setCell ⟨w.heap.size, 3, none⟩ v3).cell? ⟨eb, o + 3, none⟩ = some s ∧
    ((((W.setCell ⟨w.heap.size, 0, none⟩ v0).setCell ⟨w.heap.size, 1, none⟩ v1).setCell ⟨w.heap.size, 2, none⟩ v2).setCell ⟨w.heap.size, 3, none⟩ v3).cell? ⟨eb, o + 34, none⟩ = some t ∧ PSt w a4 a6 ((((W.setCell ⟨w.heap.size, 0, none⟩ v0).setCell ⟨w.heap.size, 1, none⟩ v1).setCell ⟨w.heap.size, 2, none⟩ v2).setCell ⟨w.heap.size, 3, none⟩ v3) := by
  obtain ⟨g0, g1, g2, g3, g4, g5⟩ := h
  have ne : eb ≠ w.heap.size := by omega
  simp only [cell_set_far ne]
  exact ⟨g0, g1, g2, g3, g4, g5.store h3 l4 l6 _ _ _ _⟩

set_option maxHeartbeats 1600000 in
theorem prefix4 (eb o : Nat) (x lo n fl : Int) (hx : (x = 0 ∧ lo = 0xffff0a000000) ∨ (x = 1 ∧ lo = 0xffff0a010000)) (hn : n = 8 ∨ n = 16) (hf : fl = 8 ∨ fl = 24) (a4 a6 : Addr) (w : World) (hg : Gl w a4 a6)
    (c0 : w.cell? ⟨eb, o, none⟩ = some (.int .u8 10)) (c1 : w.cell? ⟨eb, o + 1, none⟩ = some (.int .u8 x)) (c2 : w.cell? ⟨eb, o + 2, none⟩ = some (.int .u8 0)) (c3 : w.cell? ⟨eb, o + 3, none⟩ = some (.int .u8 0))
    (cn : w.cell? ⟨eb, o + 34, none⟩ = some (.int .u8 n)) (cf : w.cell? ⟨eb, o + 37, none⟩ = some (.int .u8 fl)) :
    Calls Ybad.prog 13 #[.pointer (some ⟨eb, o, none⟩)] w fun e w' => e = .returned (.agg #[.int .u64 0, .int .u64 lo, .pointer (some a4), .int .u8 (n + 1)]) ∧ Below w.heap.size w w' := by
  have h3 := Gl.three hg
  have le := World.block_lt_of_cell? w _ c0
  simp only at le
  have hB : Below w.heap.size w (w.alloc (.cells #[.int .u64 0, .int .u64 0, .pointer none, .int .u8 0] 43)) := (Below.refl _ _).alloc (Nat.le_refl _) _
  have hR := Blk.new w #[.int .u64 0, .int .u64 0, .pointer none, .int .u8 0] 43
  have hg' := Gl.alloc hg (.cells #[.int .u64 0, .int .u64 0, .pointer none, .int .u8 0] 43)
  replace c0 := (hB.cell le).trans c0
  replace c1 := (hB.cell (p := ⟨eb, o + 1, none⟩) le).trans c1
  replace c2 := (hB.cell (p := ⟨eb, o + 2, none⟩) le).trans c2
  replace c3 := (hB.cell (p := ⟨eb, o + 3, none⟩) le).trans c3
  replace cn := (hB.cell (p := ⟨eb, o + 34, none⟩) le).trans cn
  replace cf := (hB.cell (p := ⟨eb, o + 37, none⟩) le).trans cf
  have HL : Hid (a4.block < w.heap.size ∧ a6.block < w.heap.size) := ⟨hg.lt4, hg.lt6⟩
  have hnv : IntKind.i64.wrap n = n := by rcases hn with rfl | rfl <;> rfl
  have ls : (w.alloc (.cells #[.int .u64 0, .int .u64 0, .pointer none, .int .u8 0] 43)).heap.size = w.heap.size + 1 := by simp
  obtain ⟨W, hW⟩ : ∃ W, W = w.alloc (.cells #[.int .u64 0, .int .u64 0, .pointer none, .int .u8 0] 43) := ⟨_, rfl⟩
  rw [← hW] at hB hR hg' c0 c1 c2 c3 cn cf ls
  have HG : Hid (Gl W a4 a6 ∧ Blk W w.heap.size #[.int .u64 0, .int .u64 0, .pointer none, .int .u8 0] 43 ∧ Below w.heap.size w W ∧ W.heap.size = w.heap.size + 1) := ⟨hg', hR, hB, ls⟩
  have HX : Hid ((x = 0 ∧ lo = 0xffff0a000000) ∨ (x = 1 ∧ lo = 0xffff0a010000)) := hx
  have HN : Hid (n = 8 ∨ n = 16) := hn
  have HF : Hid ((fl = 8 ∧ true = true) ∨ (fl = 24 ∧ true = true) ∨ (fl = 0 ∧ true = false)) := by rcases hf with rfl | rfl <;> simp [Hid]
  clear hB hR hg' hg ls hx hn hf
  have harr := arr46
  go_enter Ybad.func13, Ybad.ntmps13
  go_wp2_with (go_at_call 16; rw [← hW]; clear hW; refine (has_any eb o fl true HF.out _ cf).mono ?_; rintro e w' ⟨rfl, rfl⟩)
  have l4 : a4.block < w.heap.size := HL.out.1
  have l6 : a6.block < w.heap.size := HL.out.2
  have hS0 : PSt w a4 a6 w'.drew := PSt.drew ⟨HG.out.1, HG.out.2.2.1, by rw [HG.out.2.2.2]; omega, _, rfl, HG.out.2.1⟩
  have HS0 : Hid (PSt w a4 a6 w'.drew) := hS0
  clear hS0 HG cf
  have hlt : ∀ W2, PSt w a4 a6 W2 → eb < W2.heap.size := fun W2 h => Nat.lt_trans le h.2.2.1
  have HLT : Hid (∀ W2, PSt w a4 a6 W2 → eb < W2.heap.size) := hlt
  have HC : Hid (w'.cell? ⟨eb, o, none⟩ = some (.int .u8 10) ∧ w'.cell? ⟨eb, o + 1, none⟩ = some (.int .u8 x) ∧ w'.cell? ⟨eb, o + 2, none⟩ = some (.int .u8 0) ∧ w'.cell? ⟨eb, o + 3, none⟩ = some (.int .u8 0) ∧ w'.cell? ⟨eb, o + 34, none⟩ = some (.int .u8 n)) := ⟨c0, c1, c2, c3, cn⟩
  clear hlt l4 l6
  go_region_held3 (fun w2 => w2.cell? ⟨eb, o, none⟩ = some (.int .u8 10) ∧ w2.cell? ⟨eb, o + 1, none⟩ = some (.int .u8 x) ∧ w2.cell? ⟨eb, o + 2, none⟩ = some (.int .u8 0) ∧ w2.cell? ⟨eb, o + 3, none⟩ = some (.int .u8 0) ∧ w2.cell? ⟨eb, o + 34, none⟩ = some (.int .u8 n) ∧ PSt w a4 a6 w2)
    ((first | exact ⟨HC.out.1, HC.out.2.1, HC.out.2.2.1, HC.out.2.2.2.1, HC.out.2.2.2.2, HS0.out⟩ | exact pk4 HLT.out (by assumption) (by assumption) | exact pk5 (by assumption) h3 HL.out.1 HL.out.2 le _ _ _ _))
    (first
      | (go_at_call 5; have hS1 : _ ∧ _ ∧ _ ∧ _ ∧ _ ∧ PSt w a4 a6 _ := (by assumption); refine (addrFrom4_any x lo HX.out a4 a6 _ hS1.2.2.2.2.2.gl).mono ?_; clear hS1; rintro e w2 ⟨rfl, hb⟩)
      | (go_at_call 4; have hS2 : _ ∧ _ ∧ _ ∧ _ ∧ _ ∧ PSt w a4 a6 _ := (by assumption); refine (prefixFrom_a4 0 lo n HN.out a4 a6 _ hS2.2.2.2.2.2.gl).mono ?_; rintro e w3 ⟨rfl, hb⟩; have hp3 := (PSt.later hS2.2.2.2.2.2 hb); have HP3 : Hid (PSt w a4 a6 w3) := hp3; clear hS2; obtain ⟨csr, hcsr, hblk⟩ := hp3.2.2.2; obtain ⟨ra, rb, rc, rd, rfl⟩ := four hcsr; have s0 := hblk.cell 0 _ rfl; have s1 := hblk.cell 1 _ rfl; have s2 := hblk.cell 2 _ rfl; have s3 := hblk.cell 3 _ rfl; have f0 := hblk.frozen 0; have f1 := hblk.frozen 1; have f2 := hblk.frozen 2; have f3 := hblk.frozen 3; clear hp3 hblk hcsr))
  go_wp2
  exact ret43 Ybad.results13 _ _ _ _ rfl (HP3.out.fin _ _ _ _) rfl rfl rfl ⟨rfl, (PSt.store HP3.out h3 HL.out.1 HL.out.2 _ _ _ _).2.1⟩
end Go.Proofs.YbulkbnzmDoor.Net3
