import Derived.Test.Qxb6612680aProg
import Derived.Conc.RwLib
import Derived.Conc.MuLone
import Derived.KernelRfl
namespace Go.Proofs
abbrev Try.muLink : Go.Conc.Locks.MuLink := { lock := 28, unlock := 29, ilock := 35, iunlock := 36, lockSlow := 44, unlockSlow := 47, disable := 40, enable := 42, acquire := 43, relMerge := 45, cas32 := 41, add32 := 46, tMutex := 75, tIMutex := 73, tPMutex := 87, tPIMutex := 90, tPI32 := 92, tUP := 94, tNoCopy := 70, tU32 := 71 }
theorem Try.muLib : Go.Conc.Locks.MuLib Try.prog Try.muLink :=
  ⟨Try.func28, Try.func29, Try.func35, Try.func36, Try.func40, Try.func42, Try.func43, Try.func45, Try.func41, Try.func46, Try.underlying73, Try.runUnderlying73, Try.sizeOf73, Try.isAgg73, Try.zeroValue73, Try.underlying75, Try.runUnderlying75, Try.sizeOf75, Try.isAgg75, Try.zeroValue75, Try.underlying87, Try.runUnderlying87, Try.sizeOf87, Try.isAgg87, Try.zeroValue87, Try.underlying90, Try.runUnderlying90, Try.sizeOf90, Try.isAgg90, Try.zeroValue90, Try.underlying92, Try.runUnderlying92, Try.sizeOf92, Try.isAgg92, Try.zeroValue92, Try.underlying94, Try.runUnderlying94, Try.sizeOf94, Try.isAgg94, Try.zeroValue94, Try.underlying70, Try.runUnderlying70, Try.sizeOf70, Try.isAgg70, Try.zeroValue70, Try.underlying21, Try.runUnderlying21, Try.sizeOf21, Try.isAgg21, Try.zeroValue21, (by kernel_rfl)⟩
end Go.Proofs
