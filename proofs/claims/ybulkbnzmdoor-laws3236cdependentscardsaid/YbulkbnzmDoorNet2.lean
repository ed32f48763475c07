import Derived.Test.YbulkbnzmDoorNet
namespace Go.Proofs.YbulkbnzmDoor.Net2
open Go.RowKit MapLaw Base Net
set_option linter.unusedVariables false
set_option maxRecDepth 100000

theorem addrFrom4_any (x lo : Int) (hx : (x = 0 ∧ lo = 0xffff0a000000) ∨ (x = 1 ∧ lo = 0xffff0a010000)) (a4 a6 : Addr) (w : World) (hg : Gl w a4 a6) :
    Calls Ybad.prog 5 #[.agg #[.int .u8 10, .int .u8 x, .int .u8 0, .int .u8 0]] w fun e w' => e = .returned (ad 0 lo a4) ∧ Below w.heap.size w w' := by
  have h3 := Gl.three hg
  have T := Blk.two w #[.int .u8 10, .int .u8 x, .int .u8 0, .int .u8 0] #[.int .u64 0, .int .u64 0, .pointer none] 46 41
  have g0 := (hg.later h3 hg.lt4 hg.lt6 T.2.2).c0
  clear T hg
  have o1 : bits .or .u64 281470681743360 167772160 = 281470849515520 := by decide +kernel
  have o2 : bits .or .u64 281470849515520 0 = 281470849515520 := by decide +kernel
  have o3 : bits .or .u64 281470849515520 65536 = 281470849581056 := by decide +kernel
  have o4 : bits .or .u64 281470849581056 0 = 281470849581056 := by decide +kernel
  go_enter Ybad.func5, Ybad.ntmps5
  rcases hx with ⟨rfl, rfl⟩ | ⟨rfl, rfl⟩
  all_goals
    go_wp2
    have T := Blk.two w #[.int .u8 10, .int .u8 0, .int .u8 0, .int .u8 0] #[.int .u64 0, .int .u64 281470849515520, .pointer (some a4)] 46 41
    have T' := Blk.two w #[.int .u8 10, .int .u8 1, .int .u8 0, .int .u8 0] #[.int .u64 0, .int .u64 281470849581056, .pointer (some a4)] 46 41
    first
      | exact ret41 Ybad.results5 _ _ _ _ rfl T.2.1 rfl rfl rfl ⟨rfl, T.2.2⟩
      | exact ret41 Ybad.results5 _ _ _ _ rfl T'.2.1 rfl rfl rfl ⟨rfl, T'.2.2⟩

theorem be_any (b o : Nat) (c : Nat) (x y : Int) (hx : (x = 0 ∧ y = 0) ∨ (x = 0x20 ∧ y = 1)) (w : World)
    (c0 : w.cell? ⟨b, o, none⟩ = some (.int .u8 x)) (c1 : w.cell? ⟨b, o + 1, none⟩ = some (.int .u8 y)) (c2 : w.cell? ⟨b, o + 2, none⟩ = some (.int .u8 0)) (c3 : w.cell? ⟨b, o + 3, none⟩ = some (.int .u8 0))
    (c4 : w.cell? ⟨b, o + 4, none⟩ = some (.int .u8 0)) (c5 : w.cell? ⟨b, o + 5, none⟩ = some (.int .u8 0)) (c6 : w.cell? ⟨b, o + 6, none⟩ = some (.int .u8 0)) (c7 : w.cell? ⟨b, o + 7, none⟩ = some (.int .u8 0)) :
    Calls Ybad.prog 12 #[.slice (some ⟨b, o, none⟩) 8 c] w fun e w' => e = .returned (.int .u64 (x * 0x100000000000000 + y * 0x1000000000000)) ∧ ∃ n, w' = w.drewN n := by
  go_enter Ybad.func12, Ybad.ntmps12
  rcases hx with ⟨rfl, rfl⟩ | ⟨rfl, rfl⟩
  all_goals
    go_wp2
    go_quiet (fail)
    go_wp2
    go_ret
    exact ⟨rfl, _, rfl⟩
end Go.Proofs.YbulkbnzmDoor.Net2
