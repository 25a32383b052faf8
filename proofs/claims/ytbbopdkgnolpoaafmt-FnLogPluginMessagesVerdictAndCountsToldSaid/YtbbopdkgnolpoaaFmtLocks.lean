/-
  The numbers under which this translation holds sync.Mutex's functions and types, and that it holds them; no conditions.
-/
import Derived.Test.YtbbopdkgnolpoaaFmtProg
import Derived.Conc.MuLib
import Derived.KernelRfl
namespace Go.Proofs
abbrev Tryf.muLink : Go.Conc.Locks.MuLink := { lock := 9, unlock := 10, ilock := 17, iunlock := 18, lockSlow := 29, unlockSlow := 32, disable := 25, enable := 27, acquire := 28, relMerge := 30, cas32 := 26, add32 := 31, tMutex := 52, tIMutex := 50, tPMutex := 63, tPIMutex := 92, tPI32 := 94, tUP := 96, tNoCopy := 47, tU32 := 48 }
theorem Tryf.muLib : Go.Conc.Locks.MuLib Tryf.prog Tryf.muLink :=
  ⟨Tryf.func9, Tryf.func10, Tryf.func17, Tryf.func18, Tryf.func25, Tryf.func27, Tryf.func28, Tryf.func30, Tryf.func26, Tryf.func31, Tryf.underlying50, Tryf.runUnderlying50, Tryf.sizeOf50, Tryf.isAgg50, Tryf.zeroValue50, Tryf.underlying52, Tryf.runUnderlying52, Tryf.sizeOf52, Tryf.isAgg52, Tryf.zeroValue52, Tryf.underlying63, Tryf.runUnderlying63, Tryf.sizeOf63, Tryf.isAgg63, Tryf.zeroValue63, Tryf.underlying92, Tryf.runUnderlying92, Tryf.sizeOf92, Tryf.isAgg92, Tryf.zeroValue92, Tryf.underlying94, Tryf.runUnderlying94, Tryf.sizeOf94, Tryf.isAgg94, Tryf.zeroValue94, Tryf.underlying96, Tryf.runUnderlying96, Tryf.sizeOf96, Tryf.isAgg96, Tryf.zeroValue96, Tryf.underlying47, Tryf.runUnderlying47, Tryf.sizeOf47, Tryf.isAgg47, Tryf.zeroValue47, Tryf.underlying21, Tryf.runUnderlying21, Tryf.sizeOf21, Tryf.isAgg21, Tryf.zeroValue21, by kernel_rfl⟩
end Go.Proofs
