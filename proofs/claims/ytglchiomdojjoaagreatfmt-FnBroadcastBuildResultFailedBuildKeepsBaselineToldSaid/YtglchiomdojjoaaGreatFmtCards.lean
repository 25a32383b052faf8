/-
  DERIVED. GIVEN WITH THE SEED: THE CARDS: each row of YtglchiomdojjoaaGreatFmtRows.lean that lists a variable, with what it lists TIED to the program's text (the seventh form; the later family's looks); each row that meets fmt, with fmt's text TOLD by the authors' own Lean function (tested against real Go, not proved from fmt's source: count such statements apart). THE CARD IS WHAT COUNTS. Prove the row's statement (the work); the ties are given (YtglchiomdojjoaaGreatFmtTie.lean); close each card by the builder's one call (the guide's Derived/Test/ToyasCard.lean, 'card_holds'). Laid BY PROGRAM, IN A SANDBOX (cutbox-door.mjs). By AI agents, Wed Nov 11 2026. No macro, syntax, notation, axiom, sorry.
-/
import Derived.Test.YtglchiomdojjoaaGreatFmtRows
import GoSem.ClaimSeven
namespace Go.Proofs.YtglchiomdojjoaaGreatFmt
namespace Rows

/-- THE TOLD CARD OF 'n011_280.FnBroadcastBuildResultFailedBuildKeepsBaseline'. -/
def fnBroadcastBuildResultFailedBuildKeepsBaselineCard : Claim7 := { stood := { row := fnBroadcastBuildResultFailedBuildKeepsBaselineRow, standIns := [], harness := (true, "cf793a9904ded482ee397b4fcdd05b9691aef8efd681670bd2187abd43609de1"), looks := false }, told := true, goes := false }
def FnBroadcastBuildResultFailedBuildKeepsBaselineToldSaid : Prop := Claim7.holds Tryz.pinned (.plain (OpenSpec.ofChange fnBroadcastBuildResultFailedBuildKeepsBaselineSpec)) fnBroadcastBuildResultFailedBuildKeepsBaselineCard
/-- ITS FALSE NEIGHBOUR. Refute it at one input. -/
def FnBroadcastBuildResultFailedBuildKeepsBaselineToldWrongFalsely : Prop := Claim7.holds Tryz.pinned (.plain (OpenSpec.ofChange fnBroadcastBuildResultFailedBuildKeepsBaselineWrong)) fnBroadcastBuildResultFailedBuildKeepsBaselineCard
end Rows
end Go.Proofs.YtglchiomdojjoaaGreatFmt
