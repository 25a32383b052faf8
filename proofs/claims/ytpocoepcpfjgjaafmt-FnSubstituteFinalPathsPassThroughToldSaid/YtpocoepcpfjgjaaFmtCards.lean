/-
  DERIVED. GIVEN WITH THE SEED: THE CARDS: each row of YtpocoepcpfjgjaaFmtRows.lean that lists a variable, with what it lists TIED to the program's text (the seventh form; the later family's looks); each row that meets fmt, with fmt's text TOLD by the authors' own Lean function (tested against real Go, not proved from fmt's source: count such statements apart). THE CARD IS WHAT COUNTS. Prove the row's statement (the work); the ties are given (YtpocoepcpfjgjaaFmtTie.lean); close each card by the builder's one call (the guide's Derived/Test/ToyasCard.lean, 'card_holds'). Laid BY PROGRAM, IN A SANDBOX (cutbox-door.mjs). By AI agents, Wed Nov 11 2026. No macro, syntax, notation, axiom, sorry.
-/
import Derived.Test.YtpocoepcpfjgjaaFmtRows
import GoSem.ClaimSeven
namespace Go.Proofs.YtpocoepcpfjgjaaFmt
namespace Rows

/-- THE TOLD AND TIED CARD OF 'n011_246.FnSubstituteFinalPathsPassThrough'. -/
def fnSubstituteFinalPathsPassThroughCard : Claim7 := { stood := { row := fnSubstituteFinalPathsPassThroughRow, standIns := [], harness := (true, "28511d9e199c8ef810250472559a4fde86ce04d6c31bcb5cffa5c9df840d7d10"), looks := false }, told := true, laidByText := true, laidKinds := [.data, .pinned], laidTests := true, laidLooks := .later, goes := false }
def FnSubstituteFinalPathsPassThroughToldSaid : Prop := Claim7.holds Tryf.pinned (.plain (OpenSpec.ofChange fnSubstituteFinalPathsPassThroughSpec)) fnSubstituteFinalPathsPassThroughCard
/-- ITS FALSE NEIGHBOUR. Refute it at one input. -/
def FnSubstituteFinalPathsPassThroughToldWrongFalsely : Prop := Claim7.holds Tryf.pinned (.plain (OpenSpec.ofChange fnSubstituteFinalPathsPassThroughWrong)) fnSubstituteFinalPathsPassThroughCard

/-- THE TOLD AND TIED CARD OF 'n011_246.FnPathBetweenChunksPublicExact'. -/
def fnPathBetweenChunksPublicExactCard : Claim7 := { stood := { row := fnPathBetweenChunksPublicExactRow, standIns := [], harness := (true, "28511d9e199c8ef810250472559a4fde86ce04d6c31bcb5cffa5c9df840d7d10"), looks := false }, told := true, laidByText := true, laidKinds := [.data, .pinned], laidTests := true, laidLooks := .later, goes := false }
def FnPathBetweenChunksPublicExactToldSaid : Prop := Claim7.holds Tryf.pinned (.plain (OpenSpec.ofChange fnPathBetweenChunksPublicExactSpec)) fnPathBetweenChunksPublicExactCard
/-- ITS FALSE NEIGHBOUR. Refute it at one input. -/
def FnPathBetweenChunksPublicExactToldWrongFalsely : Prop := Claim7.holds Tryf.pinned (.plain (OpenSpec.ofChange fnPathBetweenChunksPublicExactWrong)) fnPathBetweenChunksPublicExactCard
end Rows
end Go.Proofs.YtpocoepcpfjgjaaFmt
