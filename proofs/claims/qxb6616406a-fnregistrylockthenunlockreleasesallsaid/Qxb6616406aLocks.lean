/-
  The numbers under which seat b6616406a's dump holds sync.Mutex's functions and types, and that it holds them (after the guide's worked RegLocks).
-/
import Derived.Test.Qxb6616406aProg
import Derived.Conc.MuLone
import Derived.KernelRfl
namespace Go.Proofs
abbrev Try.muLink : Go.Conc.Locks.MuLink := { lock := 32, unlock := 33, ilock := 35, iunlock := 36, lockSlow := 41, unlockSlow := 44, disable := 37, enable := 39, acquire := 40, relMerge := 42, cas32 := 38, add32 := 43, tMutex := 50, tIMutex := 48, tPMutex := 83, tPIMutex := 84, tPI32 := 86, tUP := 88, tNoCopy := 45, tU32 := 46 }
theorem Try.muLib : Go.Conc.Locks.MuLib Try.prog Try.muLink :=
  ⟨Try.func32, Try.func33, Try.func35, Try.func36, Try.func37, Try.func39, Try.func40, Try.func42, Try.func38, Try.func43, Try.underlying48, Try.runUnderlying48, Try.sizeOf48, Try.isAgg48, Try.zeroValue48, Try.underlying50, Try.runUnderlying50, Try.sizeOf50, Try.isAgg50, Try.zeroValue50, Try.underlying83, Try.runUnderlying83, Try.sizeOf83, Try.isAgg83, Try.zeroValue83, Try.underlying84, Try.runUnderlying84, Try.sizeOf84, Try.isAgg84, Try.zeroValue84, Try.underlying86, Try.runUnderlying86, Try.sizeOf86, Try.isAgg86, Try.zeroValue86, Try.underlying88, Try.runUnderlying88, Try.sizeOf88, Try.isAgg88, Try.zeroValue88, Try.underlying45, Try.runUnderlying45, Try.sizeOf45, Try.isAgg45, Try.zeroValue45, Try.underlying21, Try.runUnderlying21, Try.sizeOf21, Try.isAgg21, Try.zeroValue21, (by kernel_rfl)⟩
end Go.Proofs
