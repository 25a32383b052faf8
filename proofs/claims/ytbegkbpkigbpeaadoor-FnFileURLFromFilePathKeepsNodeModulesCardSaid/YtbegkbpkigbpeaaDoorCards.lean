/-
  DERIVED. GIVEN WITH THE SEED: THE CARDS: each row of YtbegkbpkigbpeaaDoorRows.lean that lists a variable, with what it lists TIED to the program's text (the seventh form; the later family's looks); each row that meets fmt, with fmt's text TOLD by the authors' own Lean function (tested against real Go, not proved from fmt's source: count such statements apart). THE CARD IS WHAT COUNTS. Prove the row's statement (the work); the ties are given (YtbegkbpkigbpeaaDoorTie.lean); close each card by the builder's one call (the guide's Derived/Test/ToyasCard.lean, 'card_holds'). Laid BY PROGRAM, IN A SANDBOX (cutbox-door.mjs). By AI agents, Wed Nov 11 2026. No macro, syntax, notation, axiom, sorry.
-/
import Derived.Test.YtbegkbpkigbpeaaDoorRows
import GoSem.ClaimSeven
namespace Go.Proofs.YtbegkbpkigbpeaaDoor
namespace Rows

/-- THE TIED CARD OF 'n011_167.FnFileURLFromFilePathKeepsNodeModules'. -/
def fnFileURLFromFilePathKeepsNodeModulesCard : Claim7 := { stood := { row := fnFileURLFromFilePathKeepsNodeModulesRow, standIns := [], harness := (true, "c9caa658481f084d7660abd5a499fcd7daafb7c60013f8735254c0806976dc96"), looks := false }, kinds := [], alts := [], laidByText := true, laidKinds := [.data, .pinned], laidTests := true, laidLooks := .later }
def FnFileURLFromFilePathKeepsNodeModulesCardSaid : Prop := Claim7.holds Tryd.pinned (.plain (OpenSpec.ofChange fnFileURLFromFilePathKeepsNodeModulesSpec)) fnFileURLFromFilePathKeepsNodeModulesCard

/-- THE SECOND FORM's CARD OF 'n011_167.FnFileURLFromFilePathKeepsNodeModules'. -/
def fnFileURLFromFilePathKeepsNodeModulesUptoCard : Claim7 := { stood := { row := fnFileURLFromFilePathKeepsNodeModulesUptoRow, standIns := [], harness := (true, "c9caa658481f084d7660abd5a499fcd7daafb7c60013f8735254c0806976dc96"), looks := false }, kinds := [], alts := [], laidByText := true, laidKinds := [.data, .pinned], laidTests := true, laidLooks := .later }
def FnFileURLFromFilePathKeepsNodeModulesUptoCardSaid : Prop := Claim7.holds Tryd.pinned (.plain (OpenSpec.upto fnFileURLFromFilePathKeepsNodeModulesSpec)) fnFileURLFromFilePathKeepsNodeModulesUptoCard
end Rows
end Go.Proofs.YtbegkbpkigbpeaaDoor
