/-
  The numbers under which this dump holds sync.Mutex's functions and types, and that it holds them (after the guide's worked lock texts; the numbers read off the dump; checked by the kernel).
-/
import Derived.Test.Qxb6632588aProg
import Derived.Conc.RwLib
import Derived.Conc.MuData
import Derived.KernelRfl
namespace Go.Proofs
abbrev Try.muLink : Go.Conc.Locks.MuLink := { lock := 11, unlock := 12, ilock := 18, iunlock := 19, lockSlow := 28, unlockSlow := 31, disable := 24, enable := 26, acquire := 27, relMerge := 29, cas32 := 25, add32 := 30, tMutex := 36, tIMutex := 34, tPMutex := 49, tPIMutex := 54, tPI32 := 56, tUP := 58, tNoCopy := 31, tU32 := 32 }
theorem Try.muLib : Go.Conc.Locks.MuLib Try.prog Try.muLink :=
  ⟨Try.func11, Try.func12, Try.func18, Try.func19, Try.func24, Try.func26, Try.func27, Try.func29, Try.func25, Try.func30, Try.underlying34, Try.runUnderlying34, Try.sizeOf34, Try.isAgg34, Try.zeroValue34, Try.underlying36, Try.runUnderlying36, Try.sizeOf36, Try.isAgg36, Try.zeroValue36, Try.underlying49, Try.runUnderlying49, Try.sizeOf49, Try.isAgg49, Try.zeroValue49, Try.underlying54, Try.runUnderlying54, Try.sizeOf54, Try.isAgg54, Try.zeroValue54, Try.underlying56, Try.runUnderlying56, Try.sizeOf56, Try.isAgg56, Try.zeroValue56, Try.underlying58, Try.runUnderlying58, Try.sizeOf58, Try.isAgg58, Try.zeroValue58, Try.underlying31, Try.runUnderlying31, Try.sizeOf31, Try.isAgg31, Try.zeroValue31, Try.underlying21, Try.runUnderlying21, Try.sizeOf21, Try.isAgg21, Try.zeroValue21, (by kernel_rfl)⟩
end Go.Proofs
