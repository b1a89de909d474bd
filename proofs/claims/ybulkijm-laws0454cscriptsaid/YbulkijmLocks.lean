/-
  The numbers under which this program's translation holds sync.Mutex's functions and types, and that it holds them (Derived/Conc/MuLib.lean).
-/
import Derived.Test.YbulkijmProg
import Derived.Conc.MuLib
import Derived.KernelRfl
namespace Go.Proofs.Ybulkijm
abbrev Yba.muLink : Go.Conc.Locks.MuLink := { lock := 11, unlock := 10, ilock := 16, iunlock := 15, lockSlow := 24, unlockSlow := 23, disable := 17, enable := 18, acquire := 20, relMerge := 21, cas32 := 19, add32 := 22, tMutex := 59, tIMutex := 57, tPMutex := 77, tPIMutex := 78, tPI32 := 80, tUP := 82, tNoCopy := 54, tU32 := 55 }
theorem Yba.muLib : Go.Conc.Locks.MuLib Yba.prog Yba.muLink :=
  ⟨Yba.func11, Yba.func10, Yba.func16, Yba.func15, Yba.func17, Yba.func18, Yba.func20, Yba.func21, Yba.func19, Yba.func22, Yba.underlying57, Yba.runUnderlying57, Yba.sizeOf57, Yba.isAgg57, Yba.zeroValue57, Yba.underlying59, Yba.runUnderlying59, Yba.sizeOf59, Yba.isAgg59, Yba.zeroValue59, Yba.underlying77, Yba.runUnderlying77, Yba.sizeOf77, Yba.isAgg77, Yba.zeroValue77, Yba.underlying78, Yba.runUnderlying78, Yba.sizeOf78, Yba.isAgg78, Yba.zeroValue78, Yba.underlying80, Yba.runUnderlying80, Yba.sizeOf80, Yba.isAgg80, Yba.zeroValue80, Yba.underlying82, Yba.runUnderlying82, Yba.sizeOf82, Yba.isAgg82, Yba.zeroValue82, Yba.underlying54, Yba.runUnderlying54, Yba.sizeOf54, Yba.isAgg54, Yba.zeroValue54, Yba.underlying21, Yba.runUnderlying21, Yba.sizeOf21, Yba.isAgg21, Yba.zeroValue21, (by kernel_rfl)⟩
end Go.Proofs.Ybulkijm
