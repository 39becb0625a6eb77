/-
  The numbers under which this dump holds sync.Mutex's functions and types, and that it holds them (Derived/Conc/MuLib.lean): made after the guide's worked RegLocks.lean, at this dump's numbers; the kernel checks every number.
-/
import Derived.Test.Qxb6614244aProg
import Derived.Conc.MuLib
import Derived.KernelRfl
namespace Go.Proofs
abbrev Try.muLink : Go.Conc.Locks.MuLink := { lock := 13, unlock := 14, ilock := 15, iunlock := 16, lockSlow := 21, unlockSlow := 24, disable := 17, enable := 19, acquire := 20, relMerge := 22, cas32 := 18, add32 := 23, tMutex := 42, tIMutex := 40, tPMutex := 53, tPIMutex := 54, tPI32 := 56, tUP := 58, tNoCopy := 37, tU32 := 38 }
theorem Try.muLib : Go.Conc.Locks.MuLib Try.prog Try.muLink :=
  ⟨Try.func13, Try.func14, Try.func15, Try.func16, Try.func17, Try.func19, Try.func20, Try.func22, Try.func18, Try.func23, Try.underlying40, Try.runUnderlying40, Try.sizeOf40, Try.isAgg40, Try.zeroValue40, Try.underlying42, Try.runUnderlying42, Try.sizeOf42, Try.isAgg42, Try.zeroValue42, Try.underlying53, Try.runUnderlying53, Try.sizeOf53, Try.isAgg53, Try.zeroValue53, Try.underlying54, Try.runUnderlying54, Try.sizeOf54, Try.isAgg54, Try.zeroValue54, Try.underlying56, Try.runUnderlying56, Try.sizeOf56, Try.isAgg56, Try.zeroValue56, Try.underlying58, Try.runUnderlying58, Try.sizeOf58, Try.isAgg58, Try.zeroValue58, Try.underlying37, Try.runUnderlying37, Try.sizeOf37, Try.isAgg37, Try.zeroValue37, Try.underlying21, Try.runUnderlying21, Try.sizeOf21, Try.isAgg21, Try.zeroValue21, (by kernel_rfl)⟩
end Go.Proofs
