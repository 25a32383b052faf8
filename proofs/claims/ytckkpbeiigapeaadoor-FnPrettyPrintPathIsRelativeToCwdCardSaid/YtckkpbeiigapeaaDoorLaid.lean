/-
  What the rows' listed variables give the walks: nothing that they need; the witness that lays them; conditions: none.
-/
import Derived.Test.YtckkpbeiigapeaaDoorRows
import Derived.ProofKit
import Derived.OpenShut
import Derived.LaidMore
import Derived.Lay
import Derived.Stop.Joined
namespace Go.Proofs.YtckkpbeiigapeaaDoor
open Go.ChangeShapes Go.WideShapes Go.ChangeAt Go.RowKit

noncomputable def laidL : List (String × DataW Unit) := Rows.fnPrettyPrintPathKeepsRelativePathsRow.laid
theorem tabs_of {W : World} (_ : laidMetH Tryd.prog laidL W) : True := trivial
theorem laid_met (os : Os) (args : Array Value) : laidMetH Tryd.prog laidL ((World.laidAll Tryd.prog os laidL).forCall (fun _ _ => 0) ⟨#[], args, []⟩).memory := by
  rw [MakeChecks.laidMetH_plain _ _ _ (by kernel_rfl)]; exact laidMet_laidAll _ (by kernel_rfl) (by kernel_rfl)

end Go.Proofs.YtckkpbeiigapeaaDoor
