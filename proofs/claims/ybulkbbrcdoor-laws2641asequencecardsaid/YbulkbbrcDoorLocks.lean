/-
  The numbers under which this dump holds sync.Mutex's functions and types, and that it holds them (after the kit's worked StatsLocks.lean; the numbers read off this dump by hand).
-/
import Derived.Test.YbulkbbrcDoorProg
import Derived.Conc.RwLib
import Derived.Conc.MuData
import Derived.KernelRfl
namespace Go.Proofs
abbrev Ybad.muLink : Go.Conc.Locks.MuLink := { lock := 9, unlock := 12, ilock := 16, iunlock := 17, lockSlow := 23, unlockSlow := 26, disable := 19, enable := 21, acquire := 22, relMerge := 24, cas32 := 20, add32 := 25, tMutex := 41, tIMutex := 39, tPMutex := 75, tPIMutex := 78, tPI32 := 80, tUP := 82, tNoCopy := 36, tU32 := 37 }
theorem Ybad.muLib : Go.Conc.Locks.MuLib Ybad.prog Ybad.muLink :=
  ⟨Ybad.func9, Ybad.func12, Ybad.func16, Ybad.func17, Ybad.func19, Ybad.func21, Ybad.func22, Ybad.func24, Ybad.func20, Ybad.func25, Ybad.underlying39, Ybad.runUnderlying39, Ybad.sizeOf39, Ybad.isAgg39, Ybad.zeroValue39, Ybad.underlying41, Ybad.runUnderlying41, Ybad.sizeOf41, Ybad.isAgg41, Ybad.zeroValue41, Ybad.underlying75, Ybad.runUnderlying75, Ybad.sizeOf75, Ybad.isAgg75, Ybad.zeroValue75, Ybad.underlying78, Ybad.runUnderlying78, Ybad.sizeOf78, Ybad.isAgg78, Ybad.zeroValue78, Ybad.underlying80, Ybad.runUnderlying80, Ybad.sizeOf80, Ybad.isAgg80, Ybad.zeroValue80, Ybad.underlying82, Ybad.runUnderlying82, Ybad.sizeOf82, Ybad.isAgg82, Ybad.zeroValue82, Ybad.underlying36, Ybad.runUnderlying36, Ybad.sizeOf36, Ybad.isAgg36, Ybad.zeroValue36, Ybad.underlying21, Ybad.runUnderlying21, Ybad.sizeOf21, Ybad.isAgg21, Ybad.zeroValue21, (by kernel_rfl)⟩
theorem Ybad.muData : Go.Conc.Locks.MuData Ybad.prog Ybad.muLink := ⟨Ybad.underlying37, by kernel_rfl, by kernel_rfl, by kernel_rfl, by kernel_rfl, by kernel_rfl⟩
end Go.Proofs
