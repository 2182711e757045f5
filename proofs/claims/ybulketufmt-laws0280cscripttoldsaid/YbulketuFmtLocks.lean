/-
  THE NUMBERS UNDER WHICH THIS DUMP HOLDS sync.Mutex's FUNCTIONS AND TYPES, AND THAT IT HOLDS THEM (after the guide's lock-link).
-/
import Derived.Test.YbulketuFmtProg
import Derived.Conc.RwLib
import Derived.Conc.MuData
import Derived.KernelRfl
namespace Go.Proofs
abbrev Ybaf.muLink : Go.Conc.Locks.MuLink := { lock := 20, unlock := 21, ilock := 30, iunlock := 31, lockSlow := 40, unlockSlow := 43, disable := 36, enable := 38, acquire := 39, relMerge := 41, cas32 := 37, add32 := 42, tMutex := 41, tIMutex := 39, tPMutex := 61, tPIMutex := 64, tPI32 := 66, tUP := 68, tNoCopy := 36, tU32 := 37 }
theorem Ybaf.muLib : Go.Conc.Locks.MuLib Ybaf.prog Ybaf.muLink :=
  ⟨Ybaf.func20, Ybaf.func21, Ybaf.func30, Ybaf.func31, Ybaf.func36, Ybaf.func38, Ybaf.func39, Ybaf.func41, Ybaf.func37, Ybaf.func42, Ybaf.underlying39, Ybaf.runUnderlying39, Ybaf.sizeOf39, Ybaf.isAgg39, Ybaf.zeroValue39, Ybaf.underlying41, Ybaf.runUnderlying41, Ybaf.sizeOf41, Ybaf.isAgg41, Ybaf.zeroValue41, Ybaf.underlying61, Ybaf.runUnderlying61, Ybaf.sizeOf61, Ybaf.isAgg61, Ybaf.zeroValue61, Ybaf.underlying64, Ybaf.runUnderlying64, Ybaf.sizeOf64, Ybaf.isAgg64, Ybaf.zeroValue64, Ybaf.underlying66, Ybaf.runUnderlying66, Ybaf.sizeOf66, Ybaf.isAgg66, Ybaf.zeroValue66, Ybaf.underlying68, Ybaf.runUnderlying68, Ybaf.sizeOf68, Ybaf.isAgg68, Ybaf.zeroValue68, Ybaf.underlying36, Ybaf.runUnderlying36, Ybaf.sizeOf36, Ybaf.isAgg36, Ybaf.zeroValue36, Ybaf.underlying21, Ybaf.runUnderlying21, Ybaf.sizeOf21, Ybaf.isAgg21, Ybaf.zeroValue21, (by kernel_rfl)⟩
end Go.Proofs
