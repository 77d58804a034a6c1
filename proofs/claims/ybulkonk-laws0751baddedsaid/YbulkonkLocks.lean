/-
  The numbers under which this dump holds sync.Mutex's functions and types, and that it holds them (after the guide's StatsLocks). Checked by the kernel.
-/
import Derived.Test.YbulkonkProg
import Derived.Conc.MuLone
import Derived.KernelRfl
namespace Go.Proofs.Ybulkonk
abbrev Yba.muLink : Go.Conc.Locks.MuLink := { lock := 11, unlock := 12, ilock := 20, iunlock := 21, lockSlow := 29, unlockSlow := 32, disable := 25, enable := 27, acquire := 28, relMerge := 30, cas32 := 26, add32 := 31, tMutex := 36, tIMutex := 34, tPMutex := 71, tPIMutex := 77, tPI32 := 79, tUP := 81, tNoCopy := 31, tU32 := 32 }
theorem Yba.muLib : Go.Conc.Locks.MuLib Yba.prog Yba.muLink :=
  ⟨Yba.func11, Yba.func12, Yba.func20, Yba.func21, Yba.func25, Yba.func27, Yba.func28, Yba.func30, Yba.func26, Yba.func31, Yba.underlying34, Yba.runUnderlying34, Yba.sizeOf34, Yba.isAgg34, Yba.zeroValue34, Yba.underlying36, Yba.runUnderlying36, Yba.sizeOf36, Yba.isAgg36, Yba.zeroValue36, Yba.underlying71, Yba.runUnderlying71, Yba.sizeOf71, Yba.isAgg71, Yba.zeroValue71, Yba.underlying77, Yba.runUnderlying77, Yba.sizeOf77, Yba.isAgg77, Yba.zeroValue77, Yba.underlying79, Yba.runUnderlying79, Yba.sizeOf79, Yba.isAgg79, Yba.zeroValue79, Yba.underlying81, Yba.runUnderlying81, Yba.sizeOf81, Yba.isAgg81, Yba.zeroValue81, Yba.underlying31, Yba.runUnderlying31, Yba.sizeOf31, Yba.isAgg31, Yba.zeroValue31, Yba.underlying21, Yba.runUnderlying21, Yba.sizeOf21, Yba.isAgg21, Yba.zeroValue21, (by kernel_rfl)⟩
end Go.Proofs.Ybulkonk
