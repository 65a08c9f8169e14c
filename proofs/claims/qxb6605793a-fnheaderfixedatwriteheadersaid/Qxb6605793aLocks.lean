import Derived.Test.Qxb6605793aProg
import Derived.Conc.RwLib
import Derived.Conc.MuData
import Derived.KernelRfl
namespace Go.Proofs
abbrev Try.muLink : Go.Conc.Locks.MuLink := { lock := 26, unlock := 27, ilock := 36, iunlock := 37, lockSlow := 49, unlockSlow := 52, disable := 45, enable := 47, acquire := 48, relMerge := 50, cas32 := 46, add32 := 51, tMutex := 38, tIMutex := 36, tPMutex := 71, tPIMutex := 77, tPI32 := 79, tUP := 81, tNoCopy := 33, tU32 := 34 }
theorem Try.muLib : Go.Conc.Locks.MuLib Try.prog Try.muLink :=
  ⟨Try.func26, Try.func27, Try.func36, Try.func37, Try.func45, Try.func47, Try.func48, Try.func50, Try.func46, Try.func51, Try.underlying36, Try.runUnderlying36, Try.sizeOf36, Try.isAgg36, Try.zeroValue36, Try.underlying38, Try.runUnderlying38, Try.sizeOf38, Try.isAgg38, Try.zeroValue38, Try.underlying71, Try.runUnderlying71, Try.sizeOf71, Try.isAgg71, Try.zeroValue71, Try.underlying77, Try.runUnderlying77, Try.sizeOf77, Try.isAgg77, Try.zeroValue77, Try.underlying79, Try.runUnderlying79, Try.sizeOf79, Try.isAgg79, Try.zeroValue79, Try.underlying81, Try.runUnderlying81, Try.sizeOf81, Try.isAgg81, Try.zeroValue81, Try.underlying33, Try.runUnderlying33, Try.sizeOf33, Try.isAgg33, Try.zeroValue33, Try.underlying21, Try.runUnderlying21, Try.sizeOf21, Try.isAgg21, Try.zeroValue21, (by kernel_rfl)⟩
theorem Try.muData : Go.Conc.Locks.MuData Try.prog Try.muLink := ⟨Try.underlying34, by kernel_rfl, by kernel_rfl, by kernel_rfl, by kernel_rfl, by kernel_rfl⟩
end Go.Proofs
