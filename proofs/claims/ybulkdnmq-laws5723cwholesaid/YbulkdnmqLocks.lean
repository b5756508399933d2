/- The numbers under which this dump holds sync.Mutex's functions and types, after the worked StatsLocks. -/
import Derived.Test.YbulkdnmqProg
import Derived.Conc.RwLib
import Derived.Conc.MuData
import Derived.KernelRfl
namespace Go.Proofs
abbrev Yba.muLink : Go.Conc.Locks.MuLink := { lock := 20, unlock := 16, ilock := 26, iunlock := 22, lockSlow := 35, unlockSlow := 33, disable := 27, enable := 28, acquire := 30, relMerge := 31, cas32 := 29, add32 := 32, tMutex := 69, tIMutex := 67, tPMutex := 90, tPIMutex := 94, tPI32 := 96, tUP := 72, tNoCopy := 64, tU32 := 65 }
theorem Yba.muLib : Go.Conc.Locks.MuLib Yba.prog Yba.muLink :=
  ⟨Yba.func20, Yba.func16, Yba.func26, Yba.func22, Yba.func27, Yba.func28, Yba.func30, Yba.func31, Yba.func29, Yba.func32, Yba.underlying67, Yba.runUnderlying67, Yba.sizeOf67, Yba.isAgg67, Yba.zeroValue67, Yba.underlying69, Yba.runUnderlying69, Yba.sizeOf69, Yba.isAgg69, Yba.zeroValue69, Yba.underlying90, Yba.runUnderlying90, Yba.sizeOf90, Yba.isAgg90, Yba.zeroValue90, Yba.underlying94, Yba.runUnderlying94, Yba.sizeOf94, Yba.isAgg94, Yba.zeroValue94, Yba.underlying96, Yba.runUnderlying96, Yba.sizeOf96, Yba.isAgg96, Yba.zeroValue96, Yba.underlying72, Yba.runUnderlying72, Yba.sizeOf72, Yba.isAgg72, Yba.zeroValue72, Yba.underlying64, Yba.runUnderlying64, Yba.sizeOf64, Yba.isAgg64, Yba.zeroValue64, Yba.underlying21, Yba.runUnderlying21, Yba.sizeOf21, Yba.isAgg21, Yba.zeroValue21, (by kernel_rfl)⟩
end Go.Proofs
