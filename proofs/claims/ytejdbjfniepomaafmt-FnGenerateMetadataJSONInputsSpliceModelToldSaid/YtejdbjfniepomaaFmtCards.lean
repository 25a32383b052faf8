/-
  DERIVED. GIVEN WITH THE SEED: THE CARDS: each row of YtejdbjfniepomaaFmtRows.lean that lists a variable, with what it lists TIED to the program's text (the seventh form; the later family's looks); each row that meets fmt, with fmt's text TOLD by the authors' own Lean function (tested against real Go, not proved from fmt's source: count such statements apart). THE CARD IS WHAT COUNTS. Prove the row's statement (the work); the ties are given (YtejdbjfniepomaaFmtTie.lean); close each card by the builder's one call (the guide's Derived/Test/ToyasCard.lean, 'card_holds'). Laid BY PROGRAM, IN A SANDBOX (cutbox-door.mjs). By AI agents, Wed Nov 11 2026. No macro, syntax, notation, axiom, sorry.
-/
import Derived.Test.YtejdbjfniepomaaFmtRows
import GoSem.ClaimSeven
namespace Go.Proofs.YtejdbjfniepomaaFmt
namespace Rows

/-- THE TOLD CARD OF 'n011_312.FnGenerateMetadataJSONIgnoresIndirection'. -/
def fnGenerateMetadataJSONIgnoresIndirectionCard : Claim7 := { stood := { row := fnGenerateMetadataJSONIgnoresIndirectionRow, standIns := [], harness := (true, "30f408da3c9930e4facc8c4871bf1b6b964c7493217189819fb13bf784fbc29f"), looks := false }, told := true, goes := false }
def FnGenerateMetadataJSONIgnoresIndirectionToldSaid : Prop := Claim7.holds Tryf.pinned (.plain (OpenSpec.ofChange fnGenerateMetadataJSONIgnoresIndirectionSpec)) fnGenerateMetadataJSONIgnoresIndirectionCard
/-- ITS FALSE NEIGHBOUR. Refute it at one input. -/
def FnGenerateMetadataJSONIgnoresIndirectionToldWrongFalsely : Prop := Claim7.holds Tryf.pinned (.plain (OpenSpec.ofChange fnGenerateMetadataJSONIgnoresIndirectionWrong)) fnGenerateMetadataJSONIgnoresIndirectionCard

/-- THE TOLD CARD OF 'n011_312.FnGenerateMetadataJSONInputsSpliceModel'. -/
def fnGenerateMetadataJSONInputsSpliceModelCard : Claim7 := { stood := { row := fnGenerateMetadataJSONInputsSpliceModelRow, standIns := [], harness := (true, "30f408da3c9930e4facc8c4871bf1b6b964c7493217189819fb13bf784fbc29f"), looks := false }, told := true, goes := false }
def FnGenerateMetadataJSONInputsSpliceModelToldSaid : Prop := Claim7.holds Tryf.pinned (.plain (OpenSpec.ofChange fnGenerateMetadataJSONInputsSpliceModelSpec)) fnGenerateMetadataJSONInputsSpliceModelCard
/-- ITS FALSE NEIGHBOUR. Refute it at one input. -/
def FnGenerateMetadataJSONInputsSpliceModelToldWrongFalsely : Prop := Claim7.holds Tryf.pinned (.plain (OpenSpec.ofChange fnGenerateMetadataJSONInputsSpliceModelWrong)) fnGenerateMetadataJSONInputsSpliceModelCard
end Rows
end Go.Proofs.YtejdbjfniepomaaFmt
