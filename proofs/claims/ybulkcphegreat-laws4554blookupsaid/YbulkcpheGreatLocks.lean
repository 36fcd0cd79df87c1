/-
  The numbers under which this dump holds the library's sync.Mutex, after the guide's worked StatsLocks; typed by hand, checked by the kernel.
-/
import Derived.Test.YbulkcpheGreatRows
import Derived.Conc.MuLib
import Derived.KernelRfl
namespace Go.Proofs.YbulkcpheGreat
abbrev muLink : Go.Conc.Locks.MuLink := { lock := 12, unlock := 9, ilock := 15, iunlock := 14, lockSlow := 23, unlockSlow := 22, disable := 16, enable := 17, acquire := 19, relMerge := 20, cas32 := 18, add32 := 21, tMutex := 57, tIMutex := 55, tPMutex := 82, tPIMutex := 83, tPI32 := 85, tUP := 87, tNoCopy := 52, tU32 := 53 }
theorem muLib : Go.Conc.Locks.MuLib Ybaz.prog muLink :=
  ⟨Ybaz.func12, Ybaz.func9, Ybaz.func15, Ybaz.func14, Ybaz.func16, Ybaz.func17, Ybaz.func19, Ybaz.func20, Ybaz.func18, Ybaz.func21, Ybaz.underlying55, Ybaz.runUnderlying55, Ybaz.sizeOf55, Ybaz.isAgg55, Ybaz.zeroValue55, Ybaz.underlying57, Ybaz.runUnderlying57, Ybaz.sizeOf57, Ybaz.isAgg57, Ybaz.zeroValue57, Ybaz.underlying82, Ybaz.runUnderlying82, Ybaz.sizeOf82, Ybaz.isAgg82, Ybaz.zeroValue82, Ybaz.underlying83, Ybaz.runUnderlying83, Ybaz.sizeOf83, Ybaz.isAgg83, Ybaz.zeroValue83, Ybaz.underlying85, Ybaz.runUnderlying85, Ybaz.sizeOf85, Ybaz.isAgg85, Ybaz.zeroValue85, Ybaz.underlying87, Ybaz.runUnderlying87, Ybaz.sizeOf87, Ybaz.isAgg87, Ybaz.zeroValue87, Ybaz.underlying52, Ybaz.runUnderlying52, Ybaz.sizeOf52, Ybaz.isAgg52, Ybaz.zeroValue52, Ybaz.underlying21, Ybaz.runUnderlying21, Ybaz.sizeOf21, Ybaz.isAgg21, Ybaz.zeroValue21, (by kernel_rfl)⟩
end Go.Proofs.YbulkcpheGreat
