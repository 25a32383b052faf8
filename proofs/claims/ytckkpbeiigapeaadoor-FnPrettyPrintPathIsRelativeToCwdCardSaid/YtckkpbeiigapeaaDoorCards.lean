/-
  DERIVED. GIVEN WITH THE SEED: THE CARDS: each row of YtckkpbeiigapeaaDoorRows.lean that lists a variable, with what it lists TIED to the program's text (the seventh form; the later family's looks); each row that meets fmt, with fmt's text TOLD by the authors' own Lean function (tested against real Go, not proved from fmt's source: count such statements apart). THE CARD IS WHAT COUNTS. Prove the row's statement (the work); the ties are given (YtckkpbeiigapeaaDoorTie.lean); close each card by the builder's one call (the guide's Derived/Test/ToyasCard.lean, 'card_holds'). Laid BY PROGRAM, IN A SANDBOX (cutbox-door.mjs). By AI agents, Wed Nov 11 2026. No macro, syntax, notation, axiom, sorry.
-/
import Derived.Test.YtckkpbeiigapeaaDoorRows
import GoSem.ClaimSeven
namespace Go.Proofs.YtckkpbeiigapeaaDoor
namespace Rows

/-- THE TIED CARD OF 'n011_137.FnPrettyPrintPathKeepsRelativePaths'. -/
def fnPrettyPrintPathKeepsRelativePathsCard : Claim7 := { stood := { row := fnPrettyPrintPathKeepsRelativePathsRow, standIns := [], harness := (true, "2cfce278de204e52425c2556c4b521bf69dee96bbdf34c82b527853e4ecebd86"), looks := false }, kinds := [], alts := [], laidByText := true, laidKinds := [.data, .pinned, .pinned], laidTests := true, laidLooks := .later }
def FnPrettyPrintPathKeepsRelativePathsCardSaid : Prop := Claim7.holds Tryd.pinned (.plain (OpenSpec.ofChange fnPrettyPrintPathKeepsRelativePathsSpec)) fnPrettyPrintPathKeepsRelativePathsCard

/-- THE TIED CARD OF 'n011_137.FnPrettyPrintPathIsRelativeToCwd'. -/
def fnPrettyPrintPathIsRelativeToCwdCard : Claim7 := { stood := { row := fnPrettyPrintPathIsRelativeToCwdRow, standIns := [], harness := (true, "2cfce278de204e52425c2556c4b521bf69dee96bbdf34c82b527853e4ecebd86"), looks := false }, kinds := [], alts := [], laidByText := true, laidKinds := [.data, .pinned, .pinned], laidTests := true, laidLooks := .later }
def FnPrettyPrintPathIsRelativeToCwdCardSaid : Prop := Claim7.holds Tryd.pinned (.plain (OpenSpec.ofChange fnPrettyPrintPathIsRelativeToCwdSpec)) fnPrettyPrintPathIsRelativeToCwdCard

/-- THE SECOND FORM's CARD OF 'n011_137.FnPrettyPrintPathKeepsRelativePaths'. -/
def fnPrettyPrintPathKeepsRelativePathsUptoCard : Claim7 := { stood := { row := fnPrettyPrintPathKeepsRelativePathsUptoRow, standIns := [], harness := (true, "2cfce278de204e52425c2556c4b521bf69dee96bbdf34c82b527853e4ecebd86"), looks := false }, kinds := [], alts := [], laidByText := true, laidKinds := [.data, .pinned, .pinned], laidTests := true, laidLooks := .later }
def FnPrettyPrintPathKeepsRelativePathsUptoCardSaid : Prop := Claim7.holds Tryd.pinned (.plain (OpenSpec.upto fnPrettyPrintPathKeepsRelativePathsSpec)) fnPrettyPrintPathKeepsRelativePathsUptoCard

/-- THE SECOND FORM's CARD OF 'n011_137.FnPrettyPrintPathIsRelativeToCwd'. -/
def fnPrettyPrintPathIsRelativeToCwdUptoCard : Claim7 := { stood := { row := fnPrettyPrintPathIsRelativeToCwdUptoRow, standIns := [], harness := (true, "2cfce278de204e52425c2556c4b521bf69dee96bbdf34c82b527853e4ecebd86"), looks := false }, kinds := [], alts := [], laidByText := true, laidKinds := [.data, .pinned, .pinned], laidTests := true, laidLooks := .later }
def FnPrettyPrintPathIsRelativeToCwdUptoCardSaid : Prop := Claim7.holds Tryd.pinned (.plain (OpenSpec.upto fnPrettyPrintPathIsRelativeToCwdSpec)) fnPrettyPrintPathIsRelativeToCwdUptoCard
end Rows
end Go.Proofs.YtckkpbeiigapeaaDoor
