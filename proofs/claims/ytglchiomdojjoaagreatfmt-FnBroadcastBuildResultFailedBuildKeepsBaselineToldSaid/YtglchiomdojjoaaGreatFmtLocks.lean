/-
  The numbers under which this translation holds sync.Mutex's functions and types, and that it holds them; no conditions.
-/
import Derived.Test.YtglchiomdojjoaaGreatFmtProg
import Derived.Conc.MuLib
import Derived.KernelRfl
namespace Go.Proofs
abbrev Tryz.muLink : Go.Conc.Locks.MuLink := { lock := 26, unlock := 39, ilock := 40, iunlock := 50, lockSlow := 55, unlockSlow := 70, disable := 51, enable := 53, acquire := 54, relMerge := 68, cas32 := 52, add32 := 69, tMutex := 68, tIMutex := 66, tPMutex := 97, tPIMutex := 104, tPI32 := 106, tUP := 108, tNoCopy := 56, tU32 := 62 }
theorem Tryz.muLib : Go.Conc.Locks.MuLib Tryz.prog Tryz.muLink :=
  ⟨Tryz.func26, Tryz.func39, Tryz.func40, Tryz.func50, Tryz.func51, Tryz.func53, Tryz.func54, Tryz.func68, Tryz.func52, Tryz.func69, Tryz.underlying66, Tryz.runUnderlying66, Tryz.sizeOf66, Tryz.isAgg66, Tryz.zeroValue66, Tryz.underlying68, Tryz.runUnderlying68, Tryz.sizeOf68, Tryz.isAgg68, Tryz.zeroValue68, Tryz.underlying97, Tryz.runUnderlying97, Tryz.sizeOf97, Tryz.isAgg97, Tryz.zeroValue97, Tryz.underlying104, Tryz.runUnderlying104, Tryz.sizeOf104, Tryz.isAgg104, Tryz.zeroValue104, Tryz.underlying106, Tryz.runUnderlying106, Tryz.sizeOf106, Tryz.isAgg106, Tryz.zeroValue106, Tryz.underlying108, Tryz.runUnderlying108, Tryz.sizeOf108, Tryz.isAgg108, Tryz.zeroValue108, Tryz.underlying56, Tryz.runUnderlying56, Tryz.sizeOf56, Tryz.isAgg56, Tryz.zeroValue56, Tryz.underlying21, Tryz.runUnderlying21, Tryz.sizeOf21, Tryz.isAgg21, Tryz.zeroValue21, by kernel_rfl⟩
end Go.Proofs
