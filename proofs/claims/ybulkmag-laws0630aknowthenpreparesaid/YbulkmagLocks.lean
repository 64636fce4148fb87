/- The numbers under which this dump holds sync.Mutex's functions and types, and that it holds them (typed after StatsLocks; the kernel checks every number). -/
import Derived.Test.YbulkmagProg
import Derived.Conc.MuLone
import Derived.KernelRfl
namespace Go.Proofs.Ybulkmag
abbrev Yba.muLink : Go.Conc.Locks.MuLink := { lock := 17, unlock := 18, ilock := 22, iunlock := 23, lockSlow := 29, unlockSlow := 32, disable := 25, enable := 27, acquire := 28, relMerge := 30, cas32 := 26, add32 := 31, tMutex := 46, tIMutex := 44, tPMutex := 160, tPIMutex := 162, tPI32 := 164, tUP := 166, tNoCopy := 41, tU32 := 42 }
theorem Yba.muLib : Go.Conc.Locks.MuLib Yba.prog Yba.muLink :=
  ⟨Yba.func17, Yba.func18, Yba.func22, Yba.func23, Yba.func25, Yba.func27, Yba.func28, Yba.func30, Yba.func26, Yba.func31, Yba.underlying44, Yba.runUnderlying44, Yba.sizeOf44, Yba.isAgg44, Yba.zeroValue44, Yba.underlying46, Yba.runUnderlying46, Yba.sizeOf46, Yba.isAgg46, Yba.zeroValue46, Yba.underlying160, Yba.runUnderlying160, Yba.sizeOf160, Yba.isAgg160, Yba.zeroValue160, Yba.underlying162, Yba.runUnderlying162, Yba.sizeOf162, Yba.isAgg162, Yba.zeroValue162, Yba.underlying164, Yba.runUnderlying164, Yba.sizeOf164, Yba.isAgg164, Yba.zeroValue164, Yba.underlying166, Yba.runUnderlying166, Yba.sizeOf166, Yba.isAgg166, Yba.zeroValue166, Yba.underlying41, Yba.runUnderlying41, Yba.sizeOf41, Yba.isAgg41, Yba.zeroValue41, Yba.underlying21, Yba.runUnderlying21, Yba.sizeOf21, Yba.isAgg21, Yba.zeroValue21, (by kernel_rfl)⟩
end Go.Proofs.Ybulkmag
