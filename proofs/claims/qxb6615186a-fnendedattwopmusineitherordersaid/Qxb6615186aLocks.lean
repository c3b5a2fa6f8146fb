/-
  The numbers under which this dump holds sync.Mutex's functions and types, and that it holds them (Derived/Conc/MuLib.lean): after the guide's 6u. Typed by hand off the dump's own tables: the tool that prints it is not in this box.
-/
import Derived.Test.Qxb6615186aProg
import Derived.Conc.MuLib
import Derived.KernelRfl
namespace Go.Proofs
abbrev Try.muLink : Go.Conc.Locks.MuLink := { lock := 32, unlock := 33, ilock := 37, iunlock := 38, lockSlow := 43, unlockSlow := 46, disable := 39, enable := 41, acquire := 42, relMerge := 44, cas32 := 40, add32 := 45, tMutex := 64, tIMutex := 62, tPMutex := 80, tPIMutex := 81, tPI32 := 83, tUP := 85, tNoCopy := 59, tU32 := 60 }
theorem Try.muLib : Go.Conc.Locks.MuLib Try.prog Try.muLink :=
  ⟨Try.func32, Try.func33, Try.func37, Try.func38, Try.func39, Try.func41, Try.func42, Try.func44, Try.func40, Try.func45, Try.underlying62, Try.runUnderlying62, Try.sizeOf62, Try.isAgg62, Try.zeroValue62, Try.underlying64, Try.runUnderlying64, Try.sizeOf64, Try.isAgg64, Try.zeroValue64, Try.underlying80, Try.runUnderlying80, Try.sizeOf80, Try.isAgg80, Try.zeroValue80, Try.underlying81, Try.runUnderlying81, Try.sizeOf81, Try.isAgg81, Try.zeroValue81, Try.underlying83, Try.runUnderlying83, Try.sizeOf83, Try.isAgg83, Try.zeroValue83, Try.underlying85, Try.runUnderlying85, Try.sizeOf85, Try.isAgg85, Try.zeroValue85, Try.underlying59, Try.runUnderlying59, Try.sizeOf59, Try.isAgg59, Try.zeroValue59, Try.underlying21, Try.runUnderlying21, Try.sizeOf21, Try.isAgg21, Try.zeroValue21, (by kernel_rfl)⟩
end Go.Proofs
