/- The numbers under which this dump holds sync.Mutex's functions and types, after the worked StatsLocks; the kernel checks each. -/
import Derived.Test.YbulkcdxaProg
import Derived.Conc.MuLib
import Derived.KernelRfl
namespace Go.Proofs
abbrev Yba.muLink : Go.Conc.Locks.MuLink := { lock := 7, unlock := 6, ilock := 10, iunlock := 9, lockSlow := 18, unlockSlow := 17, disable := 11, enable := 12, acquire := 14, relMerge := 15, cas32 := 13, add32 := 16, tMutex := 37, tIMutex := 35, tPMutex := 67, tPIMutex := 68, tPI32 := 70, tUP := 72, tNoCopy := 32, tU32 := 33 }
theorem Yba.muLib : Go.Conc.Locks.MuLib Yba.prog Yba.muLink :=
  ⟨Yba.func7, Yba.func6, Yba.func10, Yba.func9, Yba.func11, Yba.func12, Yba.func14, Yba.func15, Yba.func13, Yba.func16, Yba.underlying35, Yba.runUnderlying35, Yba.sizeOf35, Yba.isAgg35, Yba.zeroValue35, Yba.underlying37, Yba.runUnderlying37, Yba.sizeOf37, Yba.isAgg37, Yba.zeroValue37, Yba.underlying67, Yba.runUnderlying67, Yba.sizeOf67, Yba.isAgg67, Yba.zeroValue67, Yba.underlying68, Yba.runUnderlying68, Yba.sizeOf68, Yba.isAgg68, Yba.zeroValue68, Yba.underlying70, Yba.runUnderlying70, Yba.sizeOf70, Yba.isAgg70, Yba.zeroValue70, Yba.underlying72, Yba.runUnderlying72, Yba.sizeOf72, Yba.isAgg72, Yba.zeroValue72, Yba.underlying32, Yba.runUnderlying32, Yba.sizeOf32, Yba.isAgg32, Yba.zeroValue32, Yba.underlying21, Yba.runUnderlying21, Yba.sizeOf21, Yba.isAgg21, Yba.zeroValue21, (by kernel_rfl)⟩
end Go.Proofs
