/-
  The numbers under which this dump holds sync.Mutex's functions and types, and that it holds them (after the kit's worked Derived/Test/StatsLocks.lean, at this program's numbers).
-/
import Derived.Test.YbulkexoboRows
import Derived.Conc.MuLone
import Derived.KernelRfl
namespace Go.Proofs.Ybulkexobo
abbrev muLink : Go.Conc.Locks.MuLink := { lock := 9, unlock := 7, ilock := 12, iunlock := 11, lockSlow := 20, unlockSlow := 19, disable := 13, enable := 14, acquire := 16, relMerge := 17, cas32 := 15, add32 := 18, tMutex := 29, tIMutex := 27, tPMutex := 38, tPIMutex := 39, tPI32 := 41, tUP := 43, tNoCopy := 24, tU32 := 25 }
theorem muLib : Go.Conc.Locks.MuLib Yba.prog muLink :=
  ⟨Yba.func9, Yba.func7, Yba.func12, Yba.func11, Yba.func13, Yba.func14, Yba.func16, Yba.func17, Yba.func15, Yba.func18, Yba.underlying27, Yba.runUnderlying27, Yba.sizeOf27, Yba.isAgg27, Yba.zeroValue27, Yba.underlying29, Yba.runUnderlying29, Yba.sizeOf29, Yba.isAgg29, Yba.zeroValue29, Yba.underlying38, Yba.runUnderlying38, Yba.sizeOf38, Yba.isAgg38, Yba.zeroValue38, Yba.underlying39, Yba.runUnderlying39, Yba.sizeOf39, Yba.isAgg39, Yba.zeroValue39, Yba.underlying41, Yba.runUnderlying41, Yba.sizeOf41, Yba.isAgg41, Yba.zeroValue41, Yba.underlying43, Yba.runUnderlying43, Yba.sizeOf43, Yba.isAgg43, Yba.zeroValue43, Yba.underlying24, Yba.runUnderlying24, Yba.sizeOf24, Yba.isAgg24, Yba.zeroValue24, Yba.underlying21, Yba.runUnderlying21, Yba.sizeOf21, Yba.isAgg21, Yba.zeroValue21, (by kernel_rfl)⟩
end Go.Proofs.Ybulkexobo
