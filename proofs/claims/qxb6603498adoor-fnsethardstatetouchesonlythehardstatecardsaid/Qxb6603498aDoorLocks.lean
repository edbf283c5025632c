/-
  The numbers under which this program's translation holds sync.Mutex's functions and types, after the guide's worked StatsLocks text (the tool that lays it is not in this box: typed by hand off the dump; the kernel checks every number).
-/
import Derived.Test.Qxb6603498aDoorProg
import Derived.Conc.MuLib
import Derived.KernelRfl
namespace Go.Proofs.Qxb6603498aDoor
abbrev Tryd.muLink : Go.Conc.Locks.MuLink := { lock := 16, unlock := 17, ilock := 20, iunlock := 21, lockSlow := 27, unlockSlow := 30, disable := 23, enable := 25, acquire := 26, relMerge := 28, cas32 := 24, add32 := 29, tMutex := 54, tIMutex := 52, tPMutex := 58, tPIMutex := 59, tPI32 := 61, tUP := 63, tNoCopy := 49, tU32 := 50 }
theorem Tryd.muLib : Go.Conc.Locks.MuLib Tryd.prog Tryd.muLink :=
  ⟨Tryd.func16, Tryd.func17, Tryd.func20, Tryd.func21, Tryd.func23, Tryd.func25, Tryd.func26, Tryd.func28, Tryd.func24, Tryd.func29, Tryd.underlying52, Tryd.runUnderlying52, Tryd.sizeOf52, Tryd.isAgg52, Tryd.zeroValue52, Tryd.underlying54, Tryd.runUnderlying54, Tryd.sizeOf54, Tryd.isAgg54, Tryd.zeroValue54, Tryd.underlying58, Tryd.runUnderlying58, Tryd.sizeOf58, Tryd.isAgg58, Tryd.zeroValue58, Tryd.underlying59, Tryd.runUnderlying59, Tryd.sizeOf59, Tryd.isAgg59, Tryd.zeroValue59, Tryd.underlying61, Tryd.runUnderlying61, Tryd.sizeOf61, Tryd.isAgg61, Tryd.zeroValue61, Tryd.underlying63, Tryd.runUnderlying63, Tryd.sizeOf63, Tryd.isAgg63, Tryd.zeroValue63, Tryd.underlying49, Tryd.runUnderlying49, Tryd.sizeOf49, Tryd.isAgg49, Tryd.zeroValue49, Tryd.underlying21, Tryd.runUnderlying21, Tryd.sizeOf21, Tryd.isAgg21, Tryd.zeroValue21, (by kernel_rfl)⟩
end Go.Proofs.Qxb6603498aDoor
