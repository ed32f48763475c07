import Derived.Test.YbulkboaaProg
import Derived.Conc.RwLib
import Derived.KernelRfl
namespace Go.Proofs
abbrev Yba.muLink : Go.Conc.Locks.MuLink := { lock := 21, unlock := 22, ilock := 29, iunlock := 30, lockSlow := 36, unlockSlow := 39, disable := 32, enable := 34, acquire := 35, relMerge := 37, cas32 := 33, add32 := 38, tMutex := 57, tIMutex := 55, tPMutex := 128, tPIMutex := 132, tPI32 := 134, tUP := 136, tNoCopy := 52, tU32 := 53 }
theorem Yba.muLib : Go.Conc.Locks.MuLib Yba.prog Yba.muLink :=
  ⟨Yba.func21, Yba.func22, Yba.func29, Yba.func30, Yba.func32, Yba.func34, Yba.func35, Yba.func37, Yba.func33, Yba.func38, Yba.underlying55, Yba.runUnderlying55, Yba.sizeOf55, Yba.isAgg55, Yba.zeroValue55, Yba.underlying57, Yba.runUnderlying57, Yba.sizeOf57, Yba.isAgg57, Yba.zeroValue57, Yba.underlying128, Yba.runUnderlying128, Yba.sizeOf128, Yba.isAgg128, Yba.zeroValue128, Yba.underlying132, Yba.runUnderlying132, Yba.sizeOf132, Yba.isAgg132, Yba.zeroValue132, Yba.underlying134, Yba.runUnderlying134, Yba.sizeOf134, Yba.isAgg134, Yba.zeroValue134, Yba.underlying136, Yba.runUnderlying136, Yba.sizeOf136, Yba.isAgg136, Yba.zeroValue136, Yba.underlying52, Yba.runUnderlying52, Yba.sizeOf52, Yba.isAgg52, Yba.zeroValue52, Yba.underlying21, Yba.runUnderlying21, Yba.sizeOf21, Yba.isAgg21, Yba.zeroValue21, (by kernel_rfl)⟩
end Go.Proofs
