/-
  DERIVED. GIVEN WITH THE SEED: THE CARDS: each row of YtkdkjcljdagakaaGreatFmtRows.lean that lists a variable, with what it lists TIED to the program's text (the seventh form; the later family's looks); each row that meets fmt, with fmt's text TOLD by the authors' own Lean function (tested against real Go, not proved from fmt's source: count such statements apart). THE CARD IS WHAT COUNTS. Prove the row's statement (the work); the ties are given (YtkdkjcljdagakaaGreatFmtTie.lean); close each card by the builder's one call (the guide's Derived/Test/ToyasCard.lean, 'card_holds'). Laid BY PROGRAM, IN A SANDBOX (cutbox-door.mjs). By AI agents, Wed Nov 11 2026. No macro, syntax, notation, axiom, sorry.
-/
import Derived.Test.YtkdkjcljdagakaaGreatFmtRows
import GoSem.ClaimSeven
namespace Go.Proofs.YtkdkjcljdagakaaGreatFmt
namespace Rows

/-- THE TOLD AND TIED CARD OF 'n011_243.FnValidateAliasIdempotent'. -/
def fnValidateAliasIdempotentCard : Claim7 := { stood := { row := fnValidateAliasIdempotentRow, standIns := [], harness := (true, "462a1ef3faeea8e6489335e274a0c4e87996e7a93eb7e8e966606d8fb779274f"), looks := false }, told := true, laidByText := true, laidKinds := [.data, .pinned, .pinned], laidTests := true, laidLooks := .later, goes := false }
def FnValidateAliasIdempotentToldSaid : Prop := Claim7.holds Tryz.pinned (.plain (OpenSpec.ofChange fnValidateAliasIdempotentSpec)) fnValidateAliasIdempotentCard
/-- ITS FALSE NEIGHBOUR. Refute it at one input. -/
def FnValidateAliasIdempotentToldWrongFalsely : Prop := Claim7.holds Tryz.pinned (.plain (OpenSpec.ofChange fnValidateAliasIdempotentWrong)) fnValidateAliasIdempotentCard

/-- THE TOLD AND TIED CARD OF 'n011_243.FnExternalsExactSetIsStarFreePaths'. -/
def fnExternalsExactSetIsStarFreePathsCard : Claim7 := { stood := { row := fnExternalsExactSetIsStarFreePathsRow, standIns := [], harness := (true, "462a1ef3faeea8e6489335e274a0c4e87996e7a93eb7e8e966606d8fb779274f"), looks := false }, told := true, laidByText := true, laidKinds := [.data, .pinned, .pinned], laidTests := true, laidLooks := .later, goes := false }
def FnExternalsExactSetIsStarFreePathsToldSaid : Prop := Claim7.holds Tryz.pinned (.plain (OpenSpec.ofChange fnExternalsExactSetIsStarFreePathsSpec)) fnExternalsExactSetIsStarFreePathsCard
/-- ITS FALSE NEIGHBOUR. Refute it at one input. -/
def FnExternalsExactSetIsStarFreePathsToldWrongFalsely : Prop := Claim7.holds Tryz.pinned (.plain (OpenSpec.ofChange fnExternalsExactSetIsStarFreePathsWrong)) fnExternalsExactSetIsStarFreePathsCard

/-- THE TOLD AND TIED CARD OF 'n011_243.FnExternalsSingleWildcardPatterns'. -/
def fnExternalsSingleWildcardPatternsCard : Claim7 := { stood := { row := fnExternalsSingleWildcardPatternsRow, standIns := [], harness := (true, "462a1ef3faeea8e6489335e274a0c4e87996e7a93eb7e8e966606d8fb779274f"), looks := false }, told := true, laidByText := true, laidKinds := [.data, .pinned, .pinned], laidTests := true, laidLooks := .later, goes := false }
def FnExternalsSingleWildcardPatternsToldSaid : Prop := Claim7.holds Tryz.pinned (.plain (OpenSpec.ofChange fnExternalsSingleWildcardPatternsSpec)) fnExternalsSingleWildcardPatternsCard
/-- ITS FALSE NEIGHBOUR. Refute it at one input. -/
def FnExternalsSingleWildcardPatternsToldWrongFalsely : Prop := Claim7.holds Tryz.pinned (.plain (OpenSpec.ofChange fnExternalsSingleWildcardPatternsWrong)) fnExternalsSingleWildcardPatternsCard

/-- THE TOLD AND TIED CARD OF 'n011_243.FnValidateAliasKeepsExactlyValidNames'. -/
def fnValidateAliasKeepsExactlyValidNamesCard : Claim7 := { stood := { row := fnValidateAliasKeepsExactlyValidNamesRow, standIns := [], harness := (true, "462a1ef3faeea8e6489335e274a0c4e87996e7a93eb7e8e966606d8fb779274f"), looks := false }, told := true, laidByText := true, laidKinds := [.data, .pinned, .pinned], laidTests := true, laidLooks := .later, goes := false }
def FnValidateAliasKeepsExactlyValidNamesToldSaid : Prop := Claim7.holds Tryz.pinned (.plain (OpenSpec.ofChange fnValidateAliasKeepsExactlyValidNamesSpec)) fnValidateAliasKeepsExactlyValidNamesCard
/-- ITS FALSE NEIGHBOUR. Refute it at one input. -/
def FnValidateAliasKeepsExactlyValidNamesToldWrongFalsely : Prop := Claim7.holds Tryz.pinned (.plain (OpenSpec.ofChange fnValidateAliasKeepsExactlyValidNamesWrong)) fnValidateAliasKeepsExactlyValidNamesCard
end Rows
end Go.Proofs.YtkdkjcljdagakaaGreatFmt
