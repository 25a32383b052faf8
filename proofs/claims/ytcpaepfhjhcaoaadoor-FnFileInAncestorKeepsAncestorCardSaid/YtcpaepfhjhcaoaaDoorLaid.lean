/-
  What the rows' listed variables give the walks: unicode/utf8.first and acceptRanges as the library's contracts ask for them; conditions: the listed variables read as listed.
-/
import Derived.Test.YtcpaepfhjhcaoaaDoorShelf
import Derived.Test.YtcpaepfhjhcaoaaDoorRows
import Derived.Lib.LaidCase
import Derived.Lib.LaidU8T
import Derived.ProofKit
import Derived.OpenShut
import Derived.LaidMore
import Derived.Lay
import Derived.Stop.Joined
namespace Go.Proofs.YtcpaepfhjhcaoaaDoor
open Go.ChangeShapes Go.WideShapes Go.ChangeAt Go.RowKit

def Tabs (w : World) : Prop := Lib.Utf8Tabs 0 1 w
theorem Tabs.up {w w' : World} (h : Tabs w) (hb : Below w.heap.size w w') : Tabs w' := Utf8Tabs_below h hb

noncomputable def laidL : List (String × DataW Unit) := Rows.fnLowestCommonAncestorIsCommonComponentPrefixRow.laid

theorem dFirst : (Rows.laid_unicode_utf8_first : DataW Unit) = Lib.firstData := by kernel_rfl
theorem dAccept : (Rows.laid_unicode_utf8_acceptRanges : DataW Unit) = Lib.acceptData := by kernel_rfl

theorem tabs_of {W : World} (h : laidMetH Tryd.prog laidL W) : Tabs W := by
  rw [MakeChecks.laidMetH_plain _ _ _ (by kernel_rfl)] at h
  have h2 : Lib.VarReads Tryd.prog W "unicode/utf8.first" Rows.laid_unicode_utf8_first := Lib.laidMet.reads h (by simp [laidL, Rows.fnLowestCommonAncestorIsCommonComponentPrefixRow])
  have h3 : Lib.VarReads Tryd.prog W "unicode/utf8.acceptRanges" Rows.laid_unicode_utf8_acceptRanges := Lib.laidMet.reads h (by simp [laidL, Rows.fnLowestCommonAncestorIsCommonComponentPrefixRow])
  rw [dFirst] at h2
  rw [dAccept] at h3
  exact utf8Tabs_of_readsT (ρ := Tryd.lays159_ren) ⟨by kernel_rfl, by kernel_rfl, by kernel_rfl, by kernel_rfl⟩ ⟨by kernel_rfl, by kernel_rfl, by kernel_rfl, by kernel_rfl, by kernel_rfl, by kernel_rfl, by kernel_rfl⟩ h2 h3

theorem laid_met (os : Os) (args : Array Value) : laidMetH Tryd.prog laidL ((World.laidAll Tryd.prog os laidL).forCall (fun _ _ => 0) ⟨#[], args, []⟩).memory := by
  rw [MakeChecks.laidMetH_plain _ _ _ (by kernel_rfl)]; exact laidMet_laidAll _ (by kernel_rfl) (by kernel_rfl)

end Go.Proofs.YtcpaepfhjhcaoaaDoor
