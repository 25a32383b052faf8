/-
  DERIVED. GIVEN WITH THE SEED: THE CARDS: each row of YtbbopdkgnolpoaaFmtRows.lean that lists a variable, with what it lists TIED to the program's text (the seventh form; the later family's looks); each row that meets fmt, with fmt's text TOLD by the authors' own Lean function (tested against real Go, not proved from fmt's source: count such statements apart). THE CARD IS WHAT COUNTS. Prove the row's statement (the work); the ties are given (YtbbopdkgnolpoaaFmtTie.lean); close each card by the builder's one call (the guide's Derived/Test/ToyasCard.lean, 'card_holds'). Laid BY PROGRAM, IN A SANDBOX (cutbox-door.mjs). By AI agents, Wed Nov 11 2026. No macro, syntax, notation, axiom, sorry.
-/
import Derived.Test.YtbbopdkgnolpoaaFmtRows
import GoSem.ClaimSeven
namespace Go.Proofs.YtbbopdkgnolpoaaFmt
namespace Rows

/-- THE TOLD AND TIED CARD OF 'n011_245.FnLogPluginMessagesVerdictAndCounts'. -/
def fnLogPluginMessagesVerdictAndCountsCard : Claim7 := { stood := { row := fnLogPluginMessagesVerdictAndCountsRow, standIns := [], harness := (true, "a1b58cb9d526a18d3f8cf832da86de390e83503e1fd41920cec553f829c975af"), looks := false }, told := true, laidByText := true, laidKinds := [.data, .pinned], laidTests := true, laidLooks := .later, goes := false }
def FnLogPluginMessagesVerdictAndCountsToldSaid : Prop := Claim7.holds Tryf.pinned (.plain (OpenSpec.ofChange fnLogPluginMessagesVerdictAndCountsSpec)) fnLogPluginMessagesVerdictAndCountsCard
/-- ITS FALSE NEIGHBOUR. Refute it at one input. -/
def FnLogPluginMessagesVerdictAndCountsToldWrongFalsely : Prop := Claim7.holds Tryf.pinned (.plain (OpenSpec.ofChange fnLogPluginMessagesVerdictAndCountsWrong)) fnLogPluginMessagesVerdictAndCountsCard
end Rows
end Go.Proofs.YtbbopdkgnolpoaaFmt
