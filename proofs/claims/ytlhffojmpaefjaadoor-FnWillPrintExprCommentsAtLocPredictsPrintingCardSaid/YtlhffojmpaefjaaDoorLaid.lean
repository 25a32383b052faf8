/-
  A world that meets the row's listed variables (the walk needs none of them); conditions: none.
-/
import Derived.Test.YtlhffojmpaefjaaDoorRows
import Derived.ProofKit
import Derived.OpenShut
import Derived.LaidMore
import Derived.Lay
import Derived.Lib.LaidTab
import Derived.Stop.Joined
namespace Go.Proofs.YtlhffojmpaefjaaDoor
open Go.ChangeShapes Go.WideShapes Go.ChangeAt Go.RowKit

noncomputable def laidL : List (String × DataW Unit) := Rows.fnWillPrintExprCommentsAtLocPredictsPrintingRow.laid
theorem tabs_of {W : World} (_h : laidMetH Tryd.prog laidL W) : True := trivial
theorem laid_met (os : Os) (args : Array Value) : laidMetH Tryd.prog laidL ((World.laidAll Tryd.prog os laidL).forCall (fun _ _ => 0) ⟨#[], args, []⟩).memory := by
  rw [MakeChecks.laidMetH_plain _ _ _ (by kernel_rfl)]; exact laidMet_laidAll _ (by kernel_rfl) (by kernel_rfl)
end Go.Proofs.YtlhffojmpaefjaaDoor
