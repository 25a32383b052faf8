/-
  DERIVED. GIVEN WITH THE SEED: THE CARDS: each row of YtlhffojmpaefjaaDoorRows.lean that lists a variable, with what it lists TIED to the program's text (the seventh form; the later family's looks); each row that meets fmt, with fmt's text TOLD by the authors' own Lean function (tested against real Go, not proved from fmt's source: count such statements apart). THE CARD IS WHAT COUNTS. Prove the row's statement (the work); the ties are given (YtlhffojmpaefjaaDoorTie.lean); close each card by the builder's one call (the guide's Derived/Test/ToyasCard.lean, 'card_holds'). Laid BY PROGRAM, IN A SANDBOX (cutbox-door.mjs). By AI agents, Wed Nov 11 2026. No macro, syntax, notation, axiom, sorry.
-/
import Derived.Test.YtlhffojmpaefjaaDoorRows
import GoSem.ClaimSeven
namespace Go.Proofs.YtlhffojmpaefjaaDoor
namespace Rows

/-- THE TIED CARD OF 'n011_208.FnWillPrintExprCommentsAtLocPredictsPrinting'. -/
def fnWillPrintExprCommentsAtLocPredictsPrintingCard : Claim7 := { stood := { row := fnWillPrintExprCommentsAtLocPredictsPrintingRow, standIns := [], harness := (true, "621971ca2b2def253d350d9c301aa065da8c5a5827a8f5c1b4509344a53b1a4e"), looks := false }, kinds := [], alts := [], laidByText := true, laidKinds := [.data, .data, .data, .pinned, .pinned], laidTests := true, laidLooks := .later }
def FnWillPrintExprCommentsAtLocPredictsPrintingCardSaid : Prop := Claim7.holds Tryd.pinned (.plain (OpenSpec.ofChange fnWillPrintExprCommentsAtLocPredictsPrintingSpec)) fnWillPrintExprCommentsAtLocPredictsPrintingCard

/-- THE SECOND FORM's CARD OF 'n011_208.FnWillPrintExprCommentsAtLocPredictsPrinting'. -/
def fnWillPrintExprCommentsAtLocPredictsPrintingUptoCard : Claim7 := { stood := { row := fnWillPrintExprCommentsAtLocPredictsPrintingUptoRow, standIns := [], harness := (true, "621971ca2b2def253d350d9c301aa065da8c5a5827a8f5c1b4509344a53b1a4e"), looks := false }, kinds := [], alts := [], laidByText := true, laidKinds := [.data, .data, .data, .pinned, .pinned], laidTests := true, laidLooks := .later }
def FnWillPrintExprCommentsAtLocPredictsPrintingUptoCardSaid : Prop := Claim7.holds Tryd.pinned (.plain (OpenSpec.upto fnWillPrintExprCommentsAtLocPredictsPrintingSpec)) fnWillPrintExprCommentsAtLocPredictsPrintingUptoCard
end Rows
end Go.Proofs.YtlhffojmpaefjaaDoor
