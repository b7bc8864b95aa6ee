/-
  The numbers under which this dump holds sync.Mutex's functions and types, and that it holds them (after Derived/Conc/MuLib.lean).
-/
import Derived.Test.YbulkayhwProg
import Derived.Conc.MuLone
import Derived.KernelRfl
namespace Go.Proofs
abbrev Yba.muLink : Go.Conc.Locks.MuLink := { lock := 12, unlock := 13, ilock := 16, iunlock := 17, lockSlow := 25, unlockSlow := 28, disable := 21, enable := 23, acquire := 24, relMerge := 26, cas32 := 22, add32 := 27, tMutex := 54, tIMutex := 52, tPMutex := 61, tPIMutex := 67, tPI32 := 69, tUP := 71, tNoCopy := 50, tU32 := 45 }
theorem Yba.muLib : Go.Conc.Locks.MuLib Yba.prog Yba.muLink :=
  ⟨Yba.func12, Yba.func13, Yba.func16, Yba.func17, Yba.func21, Yba.func23, Yba.func24, Yba.func26, Yba.func22, Yba.func27, Yba.underlying52, Yba.runUnderlying52, Yba.sizeOf52, Yba.isAgg52, Yba.zeroValue52, Yba.underlying54, Yba.runUnderlying54, Yba.sizeOf54, Yba.isAgg54, Yba.zeroValue54, Yba.underlying61, Yba.runUnderlying61, Yba.sizeOf61, Yba.isAgg61, Yba.zeroValue61, Yba.underlying67, Yba.runUnderlying67, Yba.sizeOf67, Yba.isAgg67, Yba.zeroValue67, Yba.underlying69, Yba.runUnderlying69, Yba.sizeOf69, Yba.isAgg69, Yba.zeroValue69, Yba.underlying71, Yba.runUnderlying71, Yba.sizeOf71, Yba.isAgg71, Yba.zeroValue71, Yba.underlying50, Yba.runUnderlying50, Yba.sizeOf50, Yba.isAgg50, Yba.zeroValue50, Yba.underlying21, Yba.runUnderlying21, Yba.sizeOf21, Yba.isAgg21, Yba.zeroValue21, (by kernel_rfl)⟩
end Go.Proofs
