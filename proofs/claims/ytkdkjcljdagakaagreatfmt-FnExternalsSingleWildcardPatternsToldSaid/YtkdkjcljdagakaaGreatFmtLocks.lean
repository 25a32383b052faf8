/-
  The numbers under which this translation holds sync.Mutex's functions and types, and that it holds them; no conditions.
-/
import Derived.Test.YtkdkjcljdagakaaGreatFmtProg
import Derived.Conc.MuLib
import Derived.KernelRfl
namespace Go.Proofs
abbrev Tryz.muLink : Go.Conc.Locks.MuLink := { lock := 24, unlock := 25, ilock := 44, iunlock := 45, lockSlow := 68, unlockSlow := 71, disable := 64, enable := 66, acquire := 67, relMerge := 69, cas32 := 65, add32 := 70, tMutex := 69, tIMutex := 67, tPMutex := 105, tPIMutex := 132, tPI32 := 134, tUP := 136, tNoCopy := 64, tU32 := 65 }
theorem Tryz.muLib : Go.Conc.Locks.MuLib Tryz.prog Tryz.muLink :=
  ⟨Tryz.func24, Tryz.func25, Tryz.func44, Tryz.func45, Tryz.func64, Tryz.func66, Tryz.func67, Tryz.func69, Tryz.func65, Tryz.func70, Tryz.underlying67, Tryz.runUnderlying67, Tryz.sizeOf67, Tryz.isAgg67, Tryz.zeroValue67, Tryz.underlying69, Tryz.runUnderlying69, Tryz.sizeOf69, Tryz.isAgg69, Tryz.zeroValue69, Tryz.underlying105, Tryz.runUnderlying105, Tryz.sizeOf105, Tryz.isAgg105, Tryz.zeroValue105, Tryz.underlying132, Tryz.runUnderlying132, Tryz.sizeOf132, Tryz.isAgg132, Tryz.zeroValue132, Tryz.underlying134, Tryz.runUnderlying134, Tryz.sizeOf134, Tryz.isAgg134, Tryz.zeroValue134, Tryz.underlying136, Tryz.runUnderlying136, Tryz.sizeOf136, Tryz.isAgg136, Tryz.zeroValue136, Tryz.underlying64, Tryz.runUnderlying64, Tryz.sizeOf64, Tryz.isAgg64, Tryz.zeroValue64, Tryz.underlying21, Tryz.runUnderlying21, Tryz.sizeOf21, Tryz.isAgg21, Tryz.zeroValue21, by kernel_rfl⟩
end Go.Proofs
