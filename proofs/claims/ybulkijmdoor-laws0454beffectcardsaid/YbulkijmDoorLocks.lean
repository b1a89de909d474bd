/-
  The numbers under which this program's translation holds sync.Mutex's functions and types, and that it holds them (Derived/Conc/MuLib.lean).
-/
import Derived.Test.YbulkijmDoorProg
import Derived.Conc.MuLib
import Derived.KernelRfl
namespace Go.Proofs.YbulkijmDoor
abbrev Ybad.muLink : Go.Conc.Locks.MuLink := { lock := 17, unlock := 18, ilock := 26, iunlock := 27, lockSlow := 40, unlockSlow := 43, disable := 36, enable := 38, acquire := 39, relMerge := 41, cas32 := 37, add32 := 42, tMutex := 48, tIMutex := 46, tPMutex := 99, tPIMutex := 108, tPI32 := 110, tUP := 112, tNoCopy := 44, tU32 := 22 }
theorem Ybad.muLib : Go.Conc.Locks.MuLib Ybad.prog Ybad.muLink :=
  ⟨Ybad.func17, Ybad.func18, Ybad.func26, Ybad.func27, Ybad.func36, Ybad.func38, Ybad.func39, Ybad.func41, Ybad.func37, Ybad.func42, Ybad.underlying46, Ybad.runUnderlying46, Ybad.sizeOf46, Ybad.isAgg46, Ybad.zeroValue46, Ybad.underlying48, Ybad.runUnderlying48, Ybad.sizeOf48, Ybad.isAgg48, Ybad.zeroValue48, Ybad.underlying99, Ybad.runUnderlying99, Ybad.sizeOf99, Ybad.isAgg99, Ybad.zeroValue99, Ybad.underlying108, Ybad.runUnderlying108, Ybad.sizeOf108, Ybad.isAgg108, Ybad.zeroValue108, Ybad.underlying110, Ybad.runUnderlying110, Ybad.sizeOf110, Ybad.isAgg110, Ybad.zeroValue110, Ybad.underlying112, Ybad.runUnderlying112, Ybad.sizeOf112, Ybad.isAgg112, Ybad.zeroValue112, Ybad.underlying44, Ybad.runUnderlying44, Ybad.sizeOf44, Ybad.isAgg44, Ybad.zeroValue44, Ybad.underlying21, Ybad.runUnderlying21, Ybad.sizeOf21, Ybad.isAgg21, Ybad.zeroValue21, (by kernel_rfl)⟩
end Go.Proofs.YbulkijmDoor
