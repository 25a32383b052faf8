/-
  DERIVED. GIVEN WITH THE SEED: THE CARDS: each row of YtonimbfpdajblaaDoorRows.lean that lists a variable, with what it lists TIED to the program's text (the seventh form; the later family's looks); each row that meets fmt, with fmt's text TOLD by the authors' own Lean function (tested against real Go, not proved from fmt's source: count such statements apart). THE CARD IS WHAT COUNTS. Prove the row's statement (the work); the ties are given (YtonimbfpdajblaaDoorTie.lean); close each card by the builder's one call (the guide's Derived/Test/ToyasCard.lean, 'card_holds'). Laid BY PROGRAM, IN A SANDBOX (cutbox-door.mjs). By AI agents, Wed Nov 11 2026. No macro, syntax, notation, axiom, sorry.
-/
import Derived.Test.YtonimbfpdajblaaDoorRows
import GoSem.ClaimSeven
namespace Go.Proofs.YtonimbfpdajblaaDoor
namespace Rows

/-- THE TIED CARD OF 'n011_81.FnEscapeClosingTagMatchesByteScan'. -/
def fnEscapeClosingTagMatchesByteScanCard : Claim7 := { stood := { row := fnEscapeClosingTagMatchesByteScanRow, standIns := [], harness := (true, "575cbbb23ea837fa5fc05ad42199eb0c73f490acc44be7bd27cc68f7a62c1e9c"), looks := false }, kinds := [], alts := [], laidByText := true, laidKinds := [.data, .data, .data, .pinned, .pinned], laidTests := true, laidLooks := .later }
def FnEscapeClosingTagMatchesByteScanCardSaid : Prop := Claim7.holds Tryd.pinned (.plain (OpenSpec.ofChange fnEscapeClosingTagMatchesByteScanSpec)) fnEscapeClosingTagMatchesByteScanCard

/-- THE TIED CARD OF 'n011_81.FnEscapeClosingTagIsIdempotentAndNeutralises'. -/
def fnEscapeClosingTagIsIdempotentAndNeutralisesCard : Claim7 := { stood := { row := fnEscapeClosingTagIsIdempotentAndNeutralisesRow, standIns := [], harness := (true, "575cbbb23ea837fa5fc05ad42199eb0c73f490acc44be7bd27cc68f7a62c1e9c"), looks := false }, kinds := [], alts := [], laidByText := true, laidKinds := [.data, .data, .data, .pinned, .pinned], laidTests := true, laidLooks := .later }
def FnEscapeClosingTagIsIdempotentAndNeutralisesCardSaid : Prop := Claim7.holds Tryd.pinned (.plain (OpenSpec.ofChange fnEscapeClosingTagIsIdempotentAndNeutralisesSpec)) fnEscapeClosingTagIsIdempotentAndNeutralisesCard

/-- THE SECOND FORM's CARD OF 'n011_81.FnEscapeClosingTagMatchesByteScan'. -/
def fnEscapeClosingTagMatchesByteScanUptoCard : Claim7 := { stood := { row := fnEscapeClosingTagMatchesByteScanUptoRow, standIns := [], harness := (true, "575cbbb23ea837fa5fc05ad42199eb0c73f490acc44be7bd27cc68f7a62c1e9c"), looks := false }, kinds := [], alts := [], laidByText := true, laidKinds := [.data, .data, .data, .pinned, .pinned], laidTests := true, laidLooks := .later }
def FnEscapeClosingTagMatchesByteScanUptoCardSaid : Prop := Claim7.holds Tryd.pinned (.plain (OpenSpec.upto fnEscapeClosingTagMatchesByteScanSpec)) fnEscapeClosingTagMatchesByteScanUptoCard

/-- THE SECOND FORM's CARD OF 'n011_81.FnEscapeClosingTagIsIdempotentAndNeutralises'. -/
def fnEscapeClosingTagIsIdempotentAndNeutralisesUptoCard : Claim7 := { stood := { row := fnEscapeClosingTagIsIdempotentAndNeutralisesUptoRow, standIns := [], harness := (true, "575cbbb23ea837fa5fc05ad42199eb0c73f490acc44be7bd27cc68f7a62c1e9c"), looks := false }, kinds := [], alts := [], laidByText := true, laidKinds := [.data, .data, .data, .pinned, .pinned], laidTests := true, laidLooks := .later }
def FnEscapeClosingTagIsIdempotentAndNeutralisesUptoCardSaid : Prop := Claim7.holds Tryd.pinned (.plain (OpenSpec.upto fnEscapeClosingTagIsIdempotentAndNeutralisesSpec)) fnEscapeClosingTagIsIdempotentAndNeutralisesUptoCard
end Rows
end Go.Proofs.YtonimbfpdajblaaDoor
