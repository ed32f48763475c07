import Derived.Test.YbulkbnxiProg
import Derived.Conc.RwLib
import Derived.KernelRfl
namespace Go.Proofs
abbrev Yba.muLink : Go.Conc.Locks.MuLink := { lock := 7, unlock := 8, ilock := 9, iunlock := 10, lockSlow := 15, unlockSlow := 18, disable := 11, enable := 13, acquire := 14, relMerge := 16, cas32 := 12, add32 := 17, tMutex := 34, tIMutex := 32, tPMutex := 48, tPIMutex := 49, tPI32 := 51, tUP := 53, tNoCopy := 30, tU32 := 24 }
theorem Yba.muLib : Go.Conc.Locks.MuLib Yba.prog Yba.muLink :=
  ⟨Yba.func7, Yba.func8, Yba.func9, Yba.func10, Yba.func11, Yba.func13, Yba.func14, Yba.func16, Yba.func12, Yba.func17, Yba.underlying32, Yba.runUnderlying32, Yba.sizeOf32, Yba.isAgg32, Yba.zeroValue32, Yba.underlying34, Yba.runUnderlying34, Yba.sizeOf34, Yba.isAgg34, Yba.zeroValue34, Yba.underlying48, Yba.runUnderlying48, Yba.sizeOf48, Yba.isAgg48, Yba.zeroValue48, Yba.underlying49, Yba.runUnderlying49, Yba.sizeOf49, Yba.isAgg49, Yba.zeroValue49, Yba.underlying51, Yba.runUnderlying51, Yba.sizeOf51, Yba.isAgg51, Yba.zeroValue51, Yba.underlying53, Yba.runUnderlying53, Yba.sizeOf53, Yba.isAgg53, Yba.zeroValue53, Yba.underlying30, Yba.runUnderlying30, Yba.sizeOf30, Yba.isAgg30, Yba.zeroValue30, Yba.underlying21, Yba.runUnderlying21, Yba.sizeOf21, Yba.isAgg21, Yba.zeroValue21, (by kernel_rfl)⟩
end Go.Proofs
