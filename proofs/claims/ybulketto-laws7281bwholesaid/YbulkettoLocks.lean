/-
  The numbers under which this program holds sync.Mutex's functions and types, and that it holds them; the contract of TryLock on a free lock.
-/
import Derived.Test.YbulkettoProg
import Derived.Conc.MuLone
import Derived.KernelRfl
namespace Go.Proofs
abbrev Yba.muLink : Go.Conc.Locks.MuLink := { lock := 28, unlock := 20, ilock := 40, iunlock := 37, lockSlow := 51, unlockSlow := 50, disable := 44, enable := 45, acquire := 47, relMerge := 48, cas32 := 46, add32 := 49, tMutex := 69, tIMutex := 67, tPMutex := 107, tPIMutex := 112, tPI32 := 114, tUP := 116, tNoCopy := 64, tU32 := 65 }
theorem Yba.muLib : Go.Conc.Locks.MuLib Yba.prog Yba.muLink :=
  ⟨Yba.func28, Yba.func20, Yba.func40, Yba.func37, Yba.func44, Yba.func45, Yba.func47, Yba.func48, Yba.func46, Yba.func49, Yba.underlying67, Yba.runUnderlying67, Yba.sizeOf67, Yba.isAgg67, Yba.zeroValue67, Yba.underlying69, Yba.runUnderlying69, Yba.sizeOf69, Yba.isAgg69, Yba.zeroValue69, Yba.underlying107, Yba.runUnderlying107, Yba.sizeOf107, Yba.isAgg107, Yba.zeroValue107, Yba.underlying112, Yba.runUnderlying112, Yba.sizeOf112, Yba.isAgg112, Yba.zeroValue112, Yba.underlying114, Yba.runUnderlying114, Yba.sizeOf114, Yba.isAgg114, Yba.zeroValue114, Yba.underlying116, Yba.runUnderlying116, Yba.sizeOf116, Yba.isAgg116, Yba.zeroValue116, Yba.underlying64, Yba.runUnderlying64, Yba.sizeOf64, Yba.isAgg64, Yba.zeroValue64, Yba.underlying21, Yba.runUnderlying21, Yba.sizeOf21, Yba.isAgg21, Yba.zeroValue21, (by kernel_rfl)⟩
end Go.Proofs
