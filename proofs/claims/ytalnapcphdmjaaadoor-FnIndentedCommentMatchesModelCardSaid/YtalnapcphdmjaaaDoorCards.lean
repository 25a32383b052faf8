/-
  DERIVED. GIVEN WITH THE SEED: THE CARDS: each row of YtalnapcphdmjaaaDoorRows.lean that lists a variable, with what it lists TIED to the program's text (the seventh form; the later family's looks); each row that meets fmt, with fmt's text TOLD by the authors' own Lean function (tested against real Go, not proved from fmt's source: count such statements apart). THE CARD IS WHAT COUNTS. Prove the row's statement (the work); the ties are given (YtalnapcphdmjaaaDoorTie.lean); close each card by the builder's one call (the guide's Derived/Test/ToyasCard.lean, 'card_holds'). Laid BY PROGRAM, IN A SANDBOX (cutbox-door.mjs). By AI agents, Wed Nov 11 2026. No macro, syntax, notation, axiom, sorry.
-/
import Derived.Test.YtalnapcphdmjaaaDoorRows
import GoSem.ClaimSeven
namespace Go.Proofs.YtalnapcphdmjaaaDoor
namespace Rows

/-- THE TIED CARD OF 'n011_303.FnIndentedCommentNeverEmitsClosingStyleTag'. -/
def fnIndentedCommentNeverEmitsClosingStyleTagCard : Claim7 := { stood := { row := fnIndentedCommentNeverEmitsClosingStyleTagRow, standIns := [], harness := (true, "6dc9b5e1ee565c3d1a8a5510fcf93d3d05cabc56892fd263946b9a38867eb979"), looks := false }, kinds := [], alts := [], laidByText := true, laidKinds := [.data, .data, .data, .pinned, .pinned], laidTests := true, laidLooks := .later }
def FnIndentedCommentNeverEmitsClosingStyleTagCardSaid : Prop := Claim7.holds Tryd.pinned (.plain (OpenSpec.ofChange fnIndentedCommentNeverEmitsClosingStyleTagSpec)) fnIndentedCommentNeverEmitsClosingStyleTagCard

/-- THE TIED CARD OF 'n011_303.FnIndentedCommentMatchesModel'. -/
def fnIndentedCommentMatchesModelCard : Claim7 := { stood := { row := fnIndentedCommentMatchesModelRow, standIns := [], harness := (true, "6dc9b5e1ee565c3d1a8a5510fcf93d3d05cabc56892fd263946b9a38867eb979"), looks := false }, kinds := [], alts := [], laidByText := true, laidKinds := [.data, .data, .data, .pinned, .pinned], laidTests := true, laidLooks := .later }
def FnIndentedCommentMatchesModelCardSaid : Prop := Claim7.holds Tryd.pinned (.plain (OpenSpec.ofChange fnIndentedCommentMatchesModelSpec)) fnIndentedCommentMatchesModelCard

/-- THE SECOND FORM's CARD OF 'n011_303.FnIndentedCommentNeverEmitsClosingStyleTag'. -/
def fnIndentedCommentNeverEmitsClosingStyleTagUptoCard : Claim7 := { stood := { row := fnIndentedCommentNeverEmitsClosingStyleTagUptoRow, standIns := [], harness := (true, "6dc9b5e1ee565c3d1a8a5510fcf93d3d05cabc56892fd263946b9a38867eb979"), looks := false }, kinds := [], alts := [], laidByText := true, laidKinds := [.data, .data, .data, .pinned, .pinned], laidTests := true, laidLooks := .later }
def FnIndentedCommentNeverEmitsClosingStyleTagUptoCardSaid : Prop := Claim7.holds Tryd.pinned (.plain (OpenSpec.upto fnIndentedCommentNeverEmitsClosingStyleTagSpec)) fnIndentedCommentNeverEmitsClosingStyleTagUptoCard

/-- THE SECOND FORM's CARD OF 'n011_303.FnIndentedCommentMatchesModel'. -/
def fnIndentedCommentMatchesModelUptoCard : Claim7 := { stood := { row := fnIndentedCommentMatchesModelUptoRow, standIns := [], harness := (true, "6dc9b5e1ee565c3d1a8a5510fcf93d3d05cabc56892fd263946b9a38867eb979"), looks := false }, kinds := [], alts := [], laidByText := true, laidKinds := [.data, .data, .data, .pinned, .pinned], laidTests := true, laidLooks := .later }
def FnIndentedCommentMatchesModelUptoCardSaid : Prop := Claim7.holds Tryd.pinned (.plain (OpenSpec.upto fnIndentedCommentMatchesModelSpec)) fnIndentedCommentMatchesModelUptoCard
end Rows
end Go.Proofs.YtalnapcphdmjaaaDoor
