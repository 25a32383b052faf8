/-
  A world that meets the rows' listed variables: the maps as the laid variables' own start leaves them, the tables laid; conditions: none.
-/
import Derived.Test.YtjinajfejbpicaaDoorMaps
import Derived.Lib.LaidIn
namespace Go.Proofs.YtjinajfejbpicaaDoor
open Go.ChangeShapes Go.WideShapes Go.ChangeAt Go.RowKit

def great : List String := ["unicode.CaseRanges", "unicode/utf8.first", "unicode/utf8.acceptRanges"]
noncomputable def doorW (os : Os) : World := World.doorLaid Tryd.prog 124 os
noncomputable def layM (os : Os) : World := (doorW os).layVars Tryd.prog (laidL.filter fun x => great.contains x.1)
theorem layM_os (os : Os) : (layM os).os = os := World.layVars_os _ _ _
def mapB : List Nat := [0, 1, 11, 12]

theorem laid_met (os : Os) (args : Array Value) : laidMetH Tryd.prog laidL ((layM os).forCall (fun _ _ => 0) ⟨#[], args, []⟩).memory := by
  rw [MakeChecks.laidMetH_plain _ _ _ (by kernel_rfl)]
  have h : laidMet Tryd.prog laidL (layM os) := laidMet_layVars (w0 := doorW os) great mapB rfl (by kernel_rfl) (by kernel_rfl)
    (LaidIn.of_run mapB 8 (by kernel_rfl) (by kernel_rfl) (by kernel_rfl) (by kernel_rfl))
  exact h.of_heap (by simp [World.memory, World.forCall, Input.heap])
end Go.Proofs.YtjinajfejbpicaaDoor
