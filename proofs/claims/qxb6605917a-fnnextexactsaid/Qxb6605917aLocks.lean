import Derived.Test.Qxb6605917aProg
import Derived.Conc.RwLib
import Derived.Conc.MuData
import Derived.KernelRfl
namespace Go.Proofs
abbrev Try.muLink : Go.Conc.Locks.MuLink := { lock := 26, unlock := 27, ilock := 34, iunlock := 35, lockSlow := 45, unlockSlow := 48, disable := 41, enable := 43, acquire := 44, relMerge := 46, cas32 := 42, add32 := 47, tMutex := 51, tIMutex := 49, tPMutex := 73, tPIMutex := 79, tPI32 := 81, tUP := 83, tNoCopy := 46, tU32 := 47 }
theorem Try.muLib : Go.Conc.Locks.MuLib Try.prog Try.muLink :=
  ⟨Try.func26, Try.func27, Try.func34, Try.func35, Try.func41, Try.func43, Try.func44, Try.func46, Try.func42, Try.func47, Try.underlying49, Try.runUnderlying49, Try.sizeOf49, Try.isAgg49, Try.zeroValue49, Try.underlying51, Try.runUnderlying51, Try.sizeOf51, Try.isAgg51, Try.zeroValue51, Try.underlying73, Try.runUnderlying73, Try.sizeOf73, Try.isAgg73, Try.zeroValue73, Try.underlying79, Try.runUnderlying79, Try.sizeOf79, Try.isAgg79, Try.zeroValue79, Try.underlying81, Try.runUnderlying81, Try.sizeOf81, Try.isAgg81, Try.zeroValue81, Try.underlying83, Try.runUnderlying83, Try.sizeOf83, Try.isAgg83, Try.zeroValue83, Try.underlying46, Try.runUnderlying46, Try.sizeOf46, Try.isAgg46, Try.zeroValue46, Try.underlying21, Try.runUnderlying21, Try.sizeOf21, Try.isAgg21, Try.zeroValue21, (by kernel_rfl)⟩
end Go.Proofs
