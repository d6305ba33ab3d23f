/-
  Seat b2680a: the numbers under which this dump holds sync.Mutex, and that it holds it (after the worked StatsLocks text).
-/
import Derived.Test.YbulkbcmcRows
import Derived.Conc.MuLib
import Derived.Conc.MuLone
import Derived.KernelRfl
namespace Go.Proofs.Ybulkbcmc
abbrev muLink : Go.Conc.Locks.MuLink := { lock := 7, unlock := 6, ilock := 10, iunlock := 9, lockSlow := 18, unlockSlow := 17, disable := 11, enable := 12, acquire := 14, relMerge := 15, cas32 := 13, add32 := 16, tMutex := 29, tIMutex := 27, tPMutex := 108, tPIMutex := 109, tPI32 := 111, tUP := 40, tNoCopy := 24, tU32 := 25 }
theorem muLib : Go.Conc.Locks.MuLib Yba.prog muLink :=
  ⟨Yba.func7, Yba.func6, Yba.func10, Yba.func9, Yba.func11, Yba.func12, Yba.func14, Yba.func15, Yba.func13, Yba.func16, Yba.underlying27, Yba.runUnderlying27, Yba.sizeOf27, Yba.isAgg27, Yba.zeroValue27, Yba.underlying29, Yba.runUnderlying29, Yba.sizeOf29, Yba.isAgg29, Yba.zeroValue29, Yba.underlying108, Yba.runUnderlying108, Yba.sizeOf108, Yba.isAgg108, Yba.zeroValue108, Yba.underlying109, Yba.runUnderlying109, Yba.sizeOf109, Yba.isAgg109, Yba.zeroValue109, Yba.underlying111, Yba.runUnderlying111, Yba.sizeOf111, Yba.isAgg111, Yba.zeroValue111, Yba.underlying40, Yba.runUnderlying40, Yba.sizeOf40, Yba.isAgg40, Yba.zeroValue40, Yba.underlying24, Yba.runUnderlying24, Yba.sizeOf24, Yba.isAgg24, Yba.zeroValue24, Yba.underlying21, Yba.runUnderlying21, Yba.sizeOf21, Yba.isAgg21, Yba.zeroValue21, (by kernel_rfl)⟩
end Go.Proofs.Ybulkbcmc
