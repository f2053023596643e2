/-
  The numbers under which this dump holds sync.Mutex's functions and types, and that it holds them (Derived/Conc/MuLib.lean): typed after the guide's worked StatsLocks text; the kernel checks every number.
-/
import Derived.Test.Qxb6614306aProg
import Derived.Conc.MuLone
import Derived.KernelRfl
namespace Go.Proofs
abbrev Try.muLink : Go.Conc.Locks.MuLink := { lock := 30, unlock := 31, ilock := 36, iunlock := 37, lockSlow := 45, unlockSlow := 48, disable := 41, enable := 43, acquire := 44, relMerge := 46, cas32 := 42, add32 := 47, tMutex := 81, tIMutex := 79, tPMutex := 98, tPIMutex := 101, tPI32 := 103, tUP := 105, tNoCopy := 76, tU32 := 77 }
theorem Try.muLib : Go.Conc.Locks.MuLib Try.prog Try.muLink :=
  ⟨Try.func30, Try.func31, Try.func36, Try.func37, Try.func41, Try.func43, Try.func44, Try.func46, Try.func42, Try.func47, Try.underlying79, Try.runUnderlying79, Try.sizeOf79, Try.isAgg79, Try.zeroValue79, Try.underlying81, Try.runUnderlying81, Try.sizeOf81, Try.isAgg81, Try.zeroValue81, Try.underlying98, Try.runUnderlying98, Try.sizeOf98, Try.isAgg98, Try.zeroValue98, Try.underlying101, Try.runUnderlying101, Try.sizeOf101, Try.isAgg101, Try.zeroValue101, Try.underlying103, Try.runUnderlying103, Try.sizeOf103, Try.isAgg103, Try.zeroValue103, Try.underlying105, Try.runUnderlying105, Try.sizeOf105, Try.isAgg105, Try.zeroValue105, Try.underlying76, Try.runUnderlying76, Try.sizeOf76, Try.isAgg76, Try.zeroValue76, Try.underlying21, Try.runUnderlying21, Try.sizeOf21, Try.isAgg21, Try.zeroValue21, (by kernel_rfl)⟩
end Go.Proofs
