/-
  DERIVED. GIVEN WITH THE SEED: THE CARDS: each row of YtpjpdeecpobmlaaFmtRows.lean that lists a variable, with what it lists TIED to the program's text (the seventh form; the later family's looks); each row that meets fmt, with fmt's text TOLD by the authors' own Lean function (tested against real Go, not proved from fmt's source: count such statements apart). THE CARD IS WHAT COUNTS. Prove the row's statement (the work); the ties are given (YtpjpdeecpobmlaaFmtTie.lean); close each card by the builder's one call (the guide's Derived/Test/ToyasCard.lean, 'card_holds'). Laid BY PROGRAM, IN A SANDBOX (cutbox-door.mjs). By AI agents, Wed Nov 11 2026. No macro, syntax, notation, axiom, sorry.
-/
import Derived.Test.YtpjpdeecpobmlaaFmtRows
import GoSem.ClaimSeven
namespace Go.Proofs.YtpjpdeecpobmlaaFmt
namespace Rows

/-- THE TOLD CARD OF 'n011_137.FnRespondWithDirListNamesAddNoTags'. -/
def fnRespondWithDirListNamesAddNoTagsCard : Claim7 := { stood := { row := fnRespondWithDirListNamesAddNoTagsRow, standIns := [], harness := (true, "413c31b2699ccb9e939142b77701513705e608cfe4a4855331af2c8ab5c5c139"), looks := false }, told := true, goes := false }
def FnRespondWithDirListNamesAddNoTagsToldSaid : Prop := Claim7.holds Tryf.pinned (.plain (OpenSpec.ofChange fnRespondWithDirListNamesAddNoTagsSpec)) fnRespondWithDirListNamesAddNoTagsCard
/-- ITS FALSE NEIGHBOUR. Refute it at one input. -/
def FnRespondWithDirListNamesAddNoTagsToldWrongFalsely : Prop := Claim7.holds Tryf.pinned (.plain (OpenSpec.ofChange fnRespondWithDirListNamesAddNoTagsWrong)) fnRespondWithDirListNamesAddNoTagsCard

/-- THE TOLD CARD OF 'n011_137.FnRespondWithDirListIsHeaderThenOneLinePerEntry'. -/
def fnRespondWithDirListIsHeaderThenOneLinePerEntryCard : Claim7 := { stood := { row := fnRespondWithDirListIsHeaderThenOneLinePerEntryRow, standIns := [], harness := (true, "413c31b2699ccb9e939142b77701513705e608cfe4a4855331af2c8ab5c5c139"), looks := false }, told := true, goes := false }
def FnRespondWithDirListIsHeaderThenOneLinePerEntryToldSaid : Prop := Claim7.holds Tryf.pinned (.plain (OpenSpec.ofChange fnRespondWithDirListIsHeaderThenOneLinePerEntrySpec)) fnRespondWithDirListIsHeaderThenOneLinePerEntryCard
/-- ITS FALSE NEIGHBOUR. Refute it at one input. -/
def FnRespondWithDirListIsHeaderThenOneLinePerEntryToldWrongFalsely : Prop := Claim7.holds Tryf.pinned (.plain (OpenSpec.ofChange fnRespondWithDirListIsHeaderThenOneLinePerEntryWrong)) fnRespondWithDirListIsHeaderThenOneLinePerEntryCard
end Rows
end Go.Proofs.YtpjpdeecpobmlaaFmt
