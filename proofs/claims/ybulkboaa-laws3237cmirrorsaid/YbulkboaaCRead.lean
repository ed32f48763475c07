import Derived.Test.YbulkboaaCBuild
namespace Go.Proofs.Ybulkboaa.CRead
open Go.RowKit MapLaw CBase CHas CBuild
set_option linter.unusedVariables false

def case7 (mu : Bool) (ho ki f0 f1 : Nat) (a : Option Addr) (len cap qu : Nat) : Value := .agg #[.bool mu, .int .u8 ho, .int .u8 ki, .int .u8 f0, .int .u8 f1, .slice a len cap, .int .u8 qu]

set_option maxRecDepth 100000 in
theorem want_multi (ho ki f0 f1 qu q : Nat) (a : Option Addr) (len cap : Nat) (m : Nat → Int) (w : World) (h0 : f0 ≤ 255) (h1 : f1 ≤ 255) (hq : q < 4) :
    Calls Yba.prog 17 #[.agg #[.bool true, .int .u8 ho, .int .u8 ki, .int .u8 f0, .int .u8 f1, .slice a len cap, .int .u8 qu], .agg #[.int .i8 (m 0), .int .i8 (m 1), .int .i8 (m 2), .int .i8 (m 3)], .int .i64 (q : Int)] w fun e w' =>
      e = .returned (.bool (f0 % 5 == q || (f1 % 5 == q || m q == 1))) ∧ Below w.heap.size w w' := by
  by_cases c0 : f0 % 5 = q
  · have e0 : ((f0 : Int) % 5 == (q : Int)) = true := by rw [beq_iff_eq]; omega
    rw [show (f0 % 5 == q) = true by simpa using c0, Bool.true_or]
    clear c0
    go_enter Yba.func17, Yba.ntmps17
    go_wp2
    go_ret
    exact ⟨rfl, ((Below.refl _ _).alloc (Nat.le_refl _) _).alloc (by simp) _⟩
  · have e0 : ((f0 : Int) % 5 == (q : Int)) = false := by rw [beq_eq_false_iff_ne]; omega
    rw [show (f0 % 5 == q) = false by simpa using c0, Bool.false_or]
    clear c0
    by_cases c1 : f1 % 5 = q
    · have e1 : ((f1 : Int) % 5 == (q : Int)) = true := by rw [beq_iff_eq]; omega
      rw [show (f1 % 5 == q) = true by simpa using c1, Bool.true_or]
      clear c1
      go_enter Yba.func17, Yba.ntmps17
      go_wp2
      go_ret
      exact ⟨rfl, ((Below.refl _ _).alloc (Nat.le_refl _) _).alloc (by simp) _⟩
    · have e1 : ((f1 : Int) % 5 == (q : Int)) = false := by rw [beq_eq_false_iff_ne]; omega
      rw [show (f1 % 5 == q) = false by simpa using c1, Bool.false_or]
      clear c1
      have hq' : (q : Int) < 4 := by omega
      have hm : ((w.alloc (.cells #[.bool true, .int .u8 ho, .int .u8 ki, .int .u8 f0, .int .u8 f1, .slice a len cap, .int .u8 qu] 104)).alloc (.cells #[.int .i8 (m 0), .int .i8 (m 1), .int .i8 (m 2), .int .i8 (m 3)] 110)).cell? ⟨w.heap.size + 1, q, none⟩ = some (.int .i8 (m q)) :=
        (Blk.new' _ #[.int .i8 (m 0), .int .i8 (m 1), .int .i8 (m 2), .int .i8 (m 3)] 110 (w.heap.size + 1) (by simp)).cell q _ (by match q, hq with | 0, _ => rfl | 1, _ => rfl | 2, _ => rfl | 3, _ => rfl)
      go_enter Yba.func17, Yba.ntmps17
      go_wp2
      go_ret
      exact ⟨rfl, ((Below.refl _ _).alloc (Nat.le_refl _) _).alloc (by simp) _⟩

set_option maxRecDepth 100000 in
theorem want_one (ho ki f0 f1 qu q : Nat) (a : Option Addr) (len cap : Nat) (m : Nat → Int) (w : World) (h0 : ho ≤ 255) (hq : q < 4) :
    Calls Yba.prog 17 #[.agg #[.bool false, .int .u8 ho, .int .u8 ki, .int .u8 f0, .int .u8 f1, .slice a len cap, .int .u8 qu], .agg #[.int .i8 (m 0), .int .i8 (m 1), .int .i8 (m 2), .int .i8 (m 3)], .int .i64 (q : Int)] w fun e w' =>
      e = .returned (.bool (ho % 5 == q && (bits BinOp.and IntKind.u8 (ki : Int) 1 != 0))) ∧ Below w.heap.size w w' := by
  by_cases c0 : ho % 5 = q
  · have e0 : ((ho : Int) % 5 == (q : Int)) = true := by rw [beq_iff_eq]; omega
    rw [show (ho % 5 == q) = true by simpa using c0, Bool.true_and]
    clear c0
    go_enter Yba.func17, Yba.ntmps17
    go_wp2
    go_ret
    exact ⟨rfl, ((Below.refl _ _).alloc (Nat.le_refl _) _).alloc (by simp) _⟩
  · have e0 : ((ho : Int) % 5 == (q : Int)) = false := by rw [beq_eq_false_iff_ne]; omega
    rw [show (ho % 5 == q) = false by simpa using c0, Bool.false_and]
    clear c0
    go_enter Yba.func17, Yba.ntmps17
    go_wp2
    go_ret
    exact ⟨rfl, ((Below.refl _ _).alloc (Nat.le_refl _) _).alloc (by simp) _⟩

/-- (*item).readBy without entries -/
theorem read_one (ib pb h q : Nat) (k : Int) (w : World) (hp : Pool w pb) (hq : q < 4) (c4 : w.cell? ⟨ib, 4, none⟩ = some (.pointer (pp pb h))) (c5 : w.cell? ⟨ib, 5, none⟩ = some (.pointer none)) (c8 : w.cell? ⟨ib, 8, none⟩ = some (.int .u8 k)) :
    Calls Yba.prog 18 #[.pointer (some ⟨ib, 0, none⟩), .pointer (some ⟨pb + q, 0, none⟩)] w fun e w' => e = .returned (.bool (h == q && (bits BinOp.and IntKind.u8 k 1 != 0))) ∧ w' = w := by
  have e0 := eql_pool hp h q hq
  by_cases c : h = q
  · rw [show (h == q) = true by simpa using c] at e0 ⊢
    rw [Bool.true_and]
    clear c
    go_enter Yba.func18, Yba.ntmps18
    go_wp2
    go_ret
    exact ⟨rfl, rfl⟩
  · rw [show (h == q) = false by simpa using c] at e0 ⊢
    rw [Bool.false_and]
    clear c
    go_enter Yba.func18, Yba.ntmps18
    go_wp2
    go_ret
    exact ⟨rfl, rfl⟩

/-- (*item).writtenBy without entries -/
theorem written_one (ib pb h q : Nat) (k : Int) (w : World) (hp : Pool w pb) (hq : q < 4) (c4 : w.cell? ⟨ib, 4, none⟩ = some (.pointer (pp pb h))) (c5 : w.cell? ⟨ib, 5, none⟩ = some (.pointer none)) (c8 : w.cell? ⟨ib, 8, none⟩ = some (.int .u8 k)) :
    Calls Yba.prog 20 #[.pointer (some ⟨ib, 0, none⟩), .pointer (some ⟨pb + q, 0, none⟩)] w fun e w' => e = .returned (.bool (h == q && (bits BinOp.and IntKind.u8 k 2 != 0))) ∧ w' = w := by
  have e0 := eql_pool hp h q hq
  by_cases c : h = q
  · rw [show (h == q) = true by simpa using c] at e0 ⊢
    rw [Bool.true_and]
    clear c
    go_enter Yba.func20, Yba.ntmps20
    go_wp2
    go_ret
    exact ⟨rfl, rfl⟩
  · rw [show (h == q) = false by simpa using c] at e0 ⊢
    rw [Bool.false_and]
    clear c
    go_enter Yba.func20, Yba.ntmps20
    go_wp2
    go_ret
    exact ⟨rfl, rfl⟩

/-- (*item).readBy with entries -/
theorem read_multi (ib eb pb i0 i1 q : Nat) (r : Option Nat) (ps : List Ent) (w : World) (hp : Pool w pb) (hq : q < 4) (c5 : w.cell? ⟨ib, 5, none⟩ = some (.pointer (some ⟨eb, 0, none⟩)))
    (d0 : w.cell? ⟨eb, 0, none⟩ = some (.pointer (pp pb i0))) (d1 : w.cell? ⟨eb, 1, none⟩ = some (.pointer (pp pb i1))) (d2 : w.cell? ⟨eb, 2, none⟩ = some (.map r)) (hm : MapAt w pb r ps) :
    Calls Yba.prog 18 #[.pointer (some ⟨ib, 0, none⟩), .pointer (some ⟨pb + q, 0, none⟩)] w fun e w' => e = .returned (.bool (i0 == q || (i1 == q || valB q ps))) ∧ w' = w := by
  have HM : Hid (MapAt w pb r ps) := hm
  clear hm
  go_enter Yba.func18, Yba.ntmps18
  go_wp2_with (go_at_call 28; refine (has_any eb 0 pb i0 i1 q r ps _ hp hq d0 d1 d2 HM.out).mono ?_; rintro e w' ⟨rfl, rfl⟩)
  go_ret
  exact ⟨rfl, rfl⟩

/-- (*item).writtenBy with entries -/
theorem written_multi (ib eb pb i0 i1 q : Nat) (r : Option Nat) (ps : List Ent) (w : World) (hp : Pool w pb) (hq : q < 4) (c5 : w.cell? ⟨ib, 5, none⟩ = some (.pointer (some ⟨eb, 0, none⟩)))
    (d0 : w.cell? ⟨eb, 4, none⟩ = some (.pointer (pp pb i0))) (d1 : w.cell? ⟨eb, 5, none⟩ = some (.pointer (pp pb i1))) (d2 : w.cell? ⟨eb, 6, none⟩ = some (.map r)) (hm : MapAt w pb r ps) :
    Calls Yba.prog 20 #[.pointer (some ⟨ib, 0, none⟩), .pointer (some ⟨pb + q, 0, none⟩)] w fun e w' => e = .returned (.bool (i0 == q || (i1 == q || valB q ps))) ∧ w' = w := by
  have HM : Hid (MapAt w pb r ps) := hm
  clear hm
  go_enter Yba.func20, Yba.ntmps20
  go_wp2_with (go_at_call 28; refine (has_any eb 4 pb i0 i1 q r ps _ hp hq d0 d1 d2 HM.out).mono ?_; rintro e w' ⟨rfl, rfl⟩)
  go_ret
  exact ⟨rfl, rfl⟩

/-- zzs3237cswap, as the walk spells it -/
def swapV (k : Int) : Int := bits BinOp.or IntKind.u8 (bits BinOp.or IntKind.u8 (bits BinOp.andNot IntKind.u8 k 3) (bits BinOp.and IntKind.u8 k 1 * 2 % 256)) (bits BinOp.and IntKind.u8 k 2 / 2)

theorem swap_any (k : Int) (w : World) : Calls Yba.prog 19 #[.int .u8 k] w fun e w' => e = .returned (.int .u8 (swapV k)) ∧ w' = w := by
  go_enter Yba.func19, Yba.ntmps19
  go_wp2
  go_ret
  exact ⟨rfl, rfl⟩

/-- the read bit of a byte is the write bit of its mirror -/
theorem swap_bit : ∀ e : Fin 256, (bits BinOp.and IntKind.u8 (swapV ((e.val : Nat) : Int)) 2 != 0) = (bits BinOp.and IntKind.u8 ((e.val : Nat) : Int) 1 != 0) := by decide +kernel

/-- an item's cells: its holder, its entries, its kinds -/
def itemCells (h e k : Value) : Array Value := #[.string ⟨#[]⟩, .int .u32 0, .int .u32 0, .pointer none, h, e, .int .i64 0, .int .i64 0, k, .int .u8 0, .bool false, .bool false, .int .u32 0]

/-- the model says 1 just where the map says true -/
theorem mo_val (q : Nat) (ps : List Ent) : (mo q ps == 1) = valB q ps := by
  unfold mo valB
  generalize lookE q ps = o
  cases o with
  | none => rfl
  | some v =>
    cases v with
    | bool b => cases b <;> rfl
    | _ => rfl
end Go.Proofs.Ybulkboaa.CRead
