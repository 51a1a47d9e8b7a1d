/- The numbers under which this program holds sync.Mutex's functions and types. -/
import Derived.Test.YtpbhblppehkifaaDoorProg
import Derived.Conc.MuLone
import Derived.KernelRfl
namespace Go.Proofs.YtpbhblppehkifaaDoor
abbrev Tryd.muLink : Go.Conc.Locks.MuLink := { lock := 45, unlock := 46, ilock := 55, iunlock := 56, lockSlow := 80, unlockSlow := 83, disable := 76, enable := 78, acquire := 79, relMerge := 81, cas32 := 77, add32 := 82, tMutex := 73, tIMutex := 71, tPMutex := 116, tPIMutex := 133, tPI32 := 135, tUP := 103, tNoCopy := 68, tU32 := 69 }
theorem Tryd.muLib : Go.Conc.Locks.MuLib Tryd.prog Tryd.muLink :=
  ⟨Tryd.func45, Tryd.func46, Tryd.func55, Tryd.func56, Tryd.func76, Tryd.func78, Tryd.func79, Tryd.func81, Tryd.func77, Tryd.func82, Tryd.underlying71, Tryd.runUnderlying71, Tryd.sizeOf71, Tryd.isAgg71, Tryd.zeroValue71, Tryd.underlying73, Tryd.runUnderlying73, Tryd.sizeOf73, Tryd.isAgg73, Tryd.zeroValue73, Tryd.underlying116, Tryd.runUnderlying116, Tryd.sizeOf116, Tryd.isAgg116, Tryd.zeroValue116, Tryd.underlying133, Tryd.runUnderlying133, Tryd.sizeOf133, Tryd.isAgg133, Tryd.zeroValue133, Tryd.underlying135, Tryd.runUnderlying135, Tryd.sizeOf135, Tryd.isAgg135, Tryd.zeroValue135, Tryd.underlying103, Tryd.runUnderlying103, Tryd.sizeOf103, Tryd.isAgg103, Tryd.zeroValue103, Tryd.underlying68, Tryd.runUnderlying68, Tryd.sizeOf68, Tryd.isAgg68, Tryd.zeroValue68, Tryd.underlying21, Tryd.runUnderlying21, Tryd.sizeOf21, Tryd.isAgg21, Tryd.zeroValue21, (by kernel_rfl)⟩
#print axioms Tryd.muLib
end Go.Proofs.YtpbhblppehkifaaDoor
