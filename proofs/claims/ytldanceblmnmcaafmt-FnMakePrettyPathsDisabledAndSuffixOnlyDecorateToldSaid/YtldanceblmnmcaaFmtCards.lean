/-
  DERIVED. GIVEN WITH THE SEED: THE CARDS: each row of YtldanceblmnmcaaFmtRows.lean that lists a variable, with what it lists TIED to the program's text (the seventh form; the later family's looks); each row that meets fmt, with fmt's text TOLD by the authors' own Lean function (tested against real Go, not proved from fmt's source: count such statements apart). THE CARD IS WHAT COUNTS. Prove the row's statement (the work); the ties are given (YtldanceblmnmcaaFmtTie.lean); close each card by the builder's one call (the guide's Derived/Test/ToyasCard.lean, 'card_holds'). Laid BY PROGRAM, IN A SANDBOX (cutbox-door.mjs). By AI agents, Wed Nov 11 2026. No macro, syntax, notation, axiom, sorry.
-/
import Derived.Test.YtldanceblmnmcaaFmtRows
import GoSem.ClaimSeven
namespace Go.Proofs.YtldanceblmnmcaaFmt
namespace Rows

/-- THE TOLD CARD OF 'n011_27.FnMakePrettyPathsDisabledAndSuffixOnlyDecorate'. -/
def fnMakePrettyPathsDisabledAndSuffixOnlyDecorateCard : Claim7 := { stood := { row := fnMakePrettyPathsDisabledAndSuffixOnlyDecorateRow, standIns := [], harness := (true, "ba922af9aabb8250aa105f04df352c5731b3985dc4e90a53f14ec32d9e36b742"), looks := false }, told := true, goes := false }
def FnMakePrettyPathsDisabledAndSuffixOnlyDecorateToldSaid : Prop := Claim7.holds Tryf.pinned (.plain (OpenSpec.ofChange fnMakePrettyPathsDisabledAndSuffixOnlyDecorateSpec)) fnMakePrettyPathsDisabledAndSuffixOnlyDecorateCard
/-- ITS FALSE NEIGHBOUR. Refute it at one input. -/
def FnMakePrettyPathsDisabledAndSuffixOnlyDecorateToldWrongFalsely : Prop := Claim7.holds Tryf.pinned (.plain (OpenSpec.ofChange fnMakePrettyPathsDisabledAndSuffixOnlyDecorateWrong)) fnMakePrettyPathsDisabledAndSuffixOnlyDecorateCard
end Rows
end Go.Proofs.YtldanceblmnmcaaFmt
