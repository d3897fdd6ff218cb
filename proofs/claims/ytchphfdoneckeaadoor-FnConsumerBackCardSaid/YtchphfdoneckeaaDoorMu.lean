/-
  The numbers under which the dump holds sync.Mutex.
-/
import Derived.Test.YtchphfdoneckeaaDoorProg
import Derived.Conc.MuLone
import Derived.KernelRfl
namespace Go.Proofs.YtchphfdoneckeaaDoor
open Go Go.Proofs
abbrev muLink : Go.Conc.Locks.MuLink := { lock := 36, unlock := 37, ilock := 53, iunlock := 54, lockSlow := 78, unlockSlow := 81, disable := 74, enable := 76, acquire := 77, relMerge := 79, cas32 := 75, add32 := 80, tMutex := 76, tIMutex := 74, tPMutex := 124, tPIMutex := 141, tPI32 := 143, tUP := 100, tNoCopy := 71, tU32 := 72 }
theorem muLib : Go.Conc.Locks.MuLib Tryd.prog muLink :=
  ⟨by kernel_rfl, by kernel_rfl, by kernel_rfl, by kernel_rfl, by kernel_rfl, by kernel_rfl, by kernel_rfl, by kernel_rfl, by kernel_rfl, by kernel_rfl,
   Tryd.underlying74, Tryd.runUnderlying74, Tryd.sizeOf74, Tryd.isAgg74, Tryd.zeroValue74,
   Tryd.underlying76, Tryd.runUnderlying76, Tryd.sizeOf76, Tryd.isAgg76, Tryd.zeroValue76,
   Tryd.underlying124, Tryd.runUnderlying124, Tryd.sizeOf124, Tryd.isAgg124, Tryd.zeroValue124,
   Tryd.underlying141, Tryd.runUnderlying141, Tryd.sizeOf141, Tryd.isAgg141, Tryd.zeroValue141,
   Tryd.underlying143, Tryd.runUnderlying143, Tryd.sizeOf143, Tryd.isAgg143, Tryd.zeroValue143,
   Tryd.underlying100, Tryd.runUnderlying100, Tryd.sizeOf100, Tryd.isAgg100, Tryd.zeroValue100,
   Tryd.underlying71, Tryd.runUnderlying71, Tryd.sizeOf71, Tryd.isAgg71, Tryd.zeroValue71,
   Tryd.underlying21, Tryd.runUnderlying21, Tryd.sizeOf21, Tryd.isAgg21, Tryd.zeroValue21, by kernel_rfl⟩
end Go.Proofs.YtchphfdoneckeaaDoor
