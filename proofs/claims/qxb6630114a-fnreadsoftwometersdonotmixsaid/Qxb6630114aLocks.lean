/-
  The numbers under which this dump holds the library's lock's functions and types, and that it holds them (after the guide's 6u). Checked by the kernel.
-/
import Derived.Test.Qxb6630114aRows
import Derived.Conc.MuLib
import Derived.Conc.MuLone
import Derived.KernelRfl
namespace Go.Proofs.Qxb6630114a
abbrev Try.muLink : Go.Conc.Locks.MuLink := { lock := 7, unlock := 8, ilock := 9, iunlock := 10, lockSlow := 15, unlockSlow := 18, disable := 11, enable := 13, acquire := 14, relMerge := 16, cas32 := 12, add32 := 17, tMutex := 35, tIMutex := 33, tPMutex := 38, tPIMutex := 39, tPI32 := 41, tUP := 43, tNoCopy := 30, tU32 := 31 }
theorem Try.muLib : Go.Conc.Locks.MuLib Try.prog Try.muLink :=
  ⟨Try.func7, Try.func8, Try.func9, Try.func10, Try.func11, Try.func13, Try.func14, Try.func16, Try.func12, Try.func17, Try.underlying33, Try.runUnderlying33, Try.sizeOf33, Try.isAgg33, Try.zeroValue33, Try.underlying35, Try.runUnderlying35, Try.sizeOf35, Try.isAgg35, Try.zeroValue35, Try.underlying38, Try.runUnderlying38, Try.sizeOf38, Try.isAgg38, Try.zeroValue38, Try.underlying39, Try.runUnderlying39, Try.sizeOf39, Try.isAgg39, Try.zeroValue39, Try.underlying41, Try.runUnderlying41, Try.sizeOf41, Try.isAgg41, Try.zeroValue41, Try.underlying43, Try.runUnderlying43, Try.sizeOf43, Try.isAgg43, Try.zeroValue43, Try.underlying30, Try.runUnderlying30, Try.sizeOf30, Try.isAgg30, Try.zeroValue30, Try.underlying21, Try.runUnderlying21, Try.sizeOf21, Try.isAgg21, Try.zeroValue21, (by kernel_rfl)⟩
end Go.Proofs.Qxb6630114a
