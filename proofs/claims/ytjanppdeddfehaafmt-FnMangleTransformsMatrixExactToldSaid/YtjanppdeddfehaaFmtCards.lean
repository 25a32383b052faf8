/-
  DERIVED. GIVEN WITH THE SEED: THE CARDS: each row of YtjanppdeddfehaaFmtRows.lean that lists a variable, with what it lists TIED to the program's text (the seventh form; the later family's looks); each row that meets fmt, with fmt's text TOLD by the authors' own Lean function (tested against real Go, not proved from fmt's source: count such statements apart). THE CARD IS WHAT COUNTS. Prove the row's statement (the work); the ties are given (YtjanppdeddfehaaFmtTie.lean); close each card by the builder's one call (the guide's Derived/Test/ToyasCard.lean, 'card_holds'). Laid BY PROGRAM, IN A SANDBOX (cutbox-door.mjs). By AI agents, Wed Nov 11 2026. No macro, syntax, notation, axiom, sorry.
-/
import Derived.Test.YtjanppdeddfehaaFmtRows
import GoSem.ClaimSeven
namespace Go.Proofs.YtjanppdeddfehaaFmt
namespace Rows

/-- THE TOLD AND TIED CARD OF 'n011_214.FnMangleTransformsMatrixExact'. -/
def fnMangleTransformsMatrixExactCard : Claim7 := { stood := { row := fnMangleTransformsMatrixExactRow, standIns := [], harness := (true, "8cbe887766b2e99212844d201da2aca0da6f17e437239d5ac708c78befe80c8d"), looks := false }, told := true, laidByText := true, laidKinds := [.data, .pinned, .pinned], laidTests := true, laidLooks := .later, goes := false }
def FnMangleTransformsMatrixExactToldSaid : Prop := Claim7.holds Tryf.pinned (.plain (OpenSpec.ofChange fnMangleTransformsMatrixExactSpec)) fnMangleTransformsMatrixExactCard
/-- ITS FALSE NEIGHBOUR. Refute it at one input. -/
def FnMangleTransformsMatrixExactToldWrongFalsely : Prop := Claim7.holds Tryf.pinned (.plain (OpenSpec.ofChange fnMangleTransformsMatrixExactWrong)) fnMangleTransformsMatrixExactCard
end Rows
end Go.Proofs.YtjanppdeddfehaaFmt
