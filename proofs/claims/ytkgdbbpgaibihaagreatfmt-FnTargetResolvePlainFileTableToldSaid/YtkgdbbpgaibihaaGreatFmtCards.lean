/-
  DERIVED. GIVEN WITH THE SEED: THE CARDS: each row of YtkgdbbpgaibihaaGreatFmtRows.lean that lists a variable, with what it lists TIED to the program's text (the seventh form; the later family's looks); each row that meets fmt, with fmt's text TOLD by the authors' own Lean function (tested against real Go, not proved from fmt's source: count such statements apart). THE CARD IS WHAT COUNTS. Prove the row's statement (the work); the ties are given (YtkgdbbpgaibihaaGreatFmtTie.lean); close each card by the builder's one call (the guide's Derived/Test/ToyasCard.lean, 'card_holds'). Laid BY PROGRAM, IN A SANDBOX (cutbox-door.mjs). By AI agents, Wed Nov 11 2026. No macro, syntax, notation, axiom, sorry.
-/
import Derived.Test.YtkgdbbpgaibihaaGreatFmtRows
import GoSem.ClaimSeven
namespace Go.Proofs.YtkgdbbpgaibihaaGreatFmt
namespace Rows

/-- THE TOLD CARD OF 'n011_278.FnTargetResolvePatternSubstitutesOnce'. -/
def fnTargetResolvePatternSubstitutesOnceCard : Claim7 := { stood := { row := fnTargetResolvePatternSubstitutesOnceRow, standIns := [], harness := (true, "c63a7a5eea669a2bbb75145d2a8e41556a510f998edcf801881ca84db8a9ebb0"), looks := false }, told := true, goes := false }
def FnTargetResolvePatternSubstitutesOnceToldSaid : Prop := Claim7.holds Tryz.pinned (.plain (OpenSpec.ofChange fnTargetResolvePatternSubstitutesOnceSpec)) fnTargetResolvePatternSubstitutesOnceCard
/-- ITS FALSE NEIGHBOUR. Refute it at one input. -/
def FnTargetResolvePatternSubstitutesOnceToldWrongFalsely : Prop := Claim7.holds Tryz.pinned (.plain (OpenSpec.ofChange fnTargetResolvePatternSubstitutesOnceWrong)) fnTargetResolvePatternSubstitutesOnceCard

/-- THE TOLD CARD OF 'n011_278.FnTargetResolvePlainFileTable'. -/
def fnTargetResolvePlainFileTableCard : Claim7 := { stood := { row := fnTargetResolvePlainFileTableRow, standIns := [], harness := (true, "c63a7a5eea669a2bbb75145d2a8e41556a510f998edcf801881ca84db8a9ebb0"), looks := false }, told := true, goes := false }
def FnTargetResolvePlainFileTableToldSaid : Prop := Claim7.holds Tryz.pinned (.plain (OpenSpec.ofChange fnTargetResolvePlainFileTableSpec)) fnTargetResolvePlainFileTableCard
/-- ITS FALSE NEIGHBOUR. Refute it at one input. -/
def FnTargetResolvePlainFileTableToldWrongFalsely : Prop := Claim7.holds Tryz.pinned (.plain (OpenSpec.ofChange fnTargetResolvePlainFileTableWrong)) fnTargetResolvePlainFileTableCard
end Rows
end Go.Proofs.YtkgdbbpgaibihaaGreatFmt
