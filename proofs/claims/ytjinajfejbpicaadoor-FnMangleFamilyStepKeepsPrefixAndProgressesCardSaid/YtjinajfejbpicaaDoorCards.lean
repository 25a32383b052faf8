/-
  DERIVED. GIVEN WITH THE SEED: THE CARDS: each row of YtjinajfejbpicaaDoorRows.lean that lists a variable, with what it lists TIED to the program's text (the seventh form; the later family's looks); each row that meets fmt, with fmt's text TOLD by the authors' own Lean function (tested against real Go, not proved from fmt's source: count such statements apart). THE CARD IS WHAT COUNTS. Prove the row's statement (the work); the ties are given (YtjinajfejbpicaaDoorTie.lean); close each card by the builder's one call (the guide's Derived/Test/ToyasCard.lean, 'card_holds'). Laid BY PROGRAM, IN A SANDBOX (cutbox-door.mjs). By AI agents, Wed Nov 11 2026. No macro, syntax, notation, axiom, sorry.
-/
import Derived.Test.YtjinajfejbpicaaDoorRows
import GoSem.ClaimSeven
namespace Go.Proofs.YtjinajfejbpicaaDoor
namespace Rows

/-- THE TIED CARD OF 'n011_54.FnMangleFontFamilyIsIdempotent'. -/
def fnMangleFontFamilyIsIdempotentCard : Claim7 := { stood := { row := fnMangleFontFamilyIsIdempotentRow, standIns := [], harness := (true, "c06f1106779e8ebd44236568743232c1a39b5363505a895d8c93d42227bdae65"), looks := false }, kinds := [], alts := [], laidByText := true, laidKinds := [.data, .mapped, .mappedDeep, .pinned, .pinned], laidTests := true, laidLooks := .later }
def FnMangleFontFamilyIsIdempotentCardSaid : Prop := Claim7.holds Tryd.pinned (.plain (OpenSpec.ofChange fnMangleFontFamilyIsIdempotentSpec)) fnMangleFontFamilyIsIdempotentCard

/-- THE TIED CARD OF 'n011_54.FnMangleFontFamilyMatchesCommaGroupModel'. -/
def fnMangleFontFamilyMatchesCommaGroupModelCard : Claim7 := { stood := { row := fnMangleFontFamilyMatchesCommaGroupModelRow, standIns := [], harness := (true, "c06f1106779e8ebd44236568743232c1a39b5363505a895d8c93d42227bdae65"), looks := false }, kinds := [], alts := [], laidByText := true, laidKinds := [.data, .mapped, .mappedDeep, .pinned, .pinned], laidTests := true, laidLooks := .later }
def FnMangleFontFamilyMatchesCommaGroupModelCardSaid : Prop := Claim7.holds Tryd.pinned (.plain (OpenSpec.ofChange fnMangleFontFamilyMatchesCommaGroupModelSpec)) fnMangleFontFamilyMatchesCommaGroupModelCard

/-- THE TIED CARD OF 'n011_54.FnMangleFamilyStepKeepsPrefixAndProgresses'. -/
def fnMangleFamilyStepKeepsPrefixAndProgressesCard : Claim7 := { stood := { row := fnMangleFamilyStepKeepsPrefixAndProgressesRow, standIns := [], harness := (true, "c06f1106779e8ebd44236568743232c1a39b5363505a895d8c93d42227bdae65"), looks := false }, kinds := [], alts := [], laidByText := true, laidKinds := [.data, .mapped, .mappedDeep, .pinned, .pinned], laidTests := true, laidLooks := .later }
def FnMangleFamilyStepKeepsPrefixAndProgressesCardSaid : Prop := Claim7.holds Tryd.pinned (.plain (OpenSpec.ofChange fnMangleFamilyStepKeepsPrefixAndProgressesSpec)) fnMangleFamilyStepKeepsPrefixAndProgressesCard

/-- THE SECOND FORM's CARD OF 'n011_54.FnMangleFontFamilyIsIdempotent'. -/
def fnMangleFontFamilyIsIdempotentUptoCard : Claim7 := { stood := { row := fnMangleFontFamilyIsIdempotentUptoRow, standIns := [], harness := (true, "c06f1106779e8ebd44236568743232c1a39b5363505a895d8c93d42227bdae65"), looks := false }, kinds := [], alts := [], laidByText := true, laidKinds := [.data, .mapped, .mappedDeep, .pinned, .pinned], laidTests := true, laidLooks := .later }
def FnMangleFontFamilyIsIdempotentUptoCardSaid : Prop := Claim7.holds Tryd.pinned (.plain (OpenSpec.upto fnMangleFontFamilyIsIdempotentSpec)) fnMangleFontFamilyIsIdempotentUptoCard

/-- THE SECOND FORM's CARD OF 'n011_54.FnMangleFontFamilyMatchesCommaGroupModel'. -/
def fnMangleFontFamilyMatchesCommaGroupModelUptoCard : Claim7 := { stood := { row := fnMangleFontFamilyMatchesCommaGroupModelUptoRow, standIns := [], harness := (true, "c06f1106779e8ebd44236568743232c1a39b5363505a895d8c93d42227bdae65"), looks := false }, kinds := [], alts := [], laidByText := true, laidKinds := [.data, .mapped, .mappedDeep, .pinned, .pinned], laidTests := true, laidLooks := .later }
def FnMangleFontFamilyMatchesCommaGroupModelUptoCardSaid : Prop := Claim7.holds Tryd.pinned (.plain (OpenSpec.upto fnMangleFontFamilyMatchesCommaGroupModelSpec)) fnMangleFontFamilyMatchesCommaGroupModelUptoCard

/-- THE SECOND FORM's CARD OF 'n011_54.FnMangleFamilyStepKeepsPrefixAndProgresses'. -/
def fnMangleFamilyStepKeepsPrefixAndProgressesUptoCard : Claim7 := { stood := { row := fnMangleFamilyStepKeepsPrefixAndProgressesUptoRow, standIns := [], harness := (true, "c06f1106779e8ebd44236568743232c1a39b5363505a895d8c93d42227bdae65"), looks := false }, kinds := [], alts := [], laidByText := true, laidKinds := [.data, .mapped, .mappedDeep, .pinned, .pinned], laidTests := true, laidLooks := .later }
def FnMangleFamilyStepKeepsPrefixAndProgressesUptoCardSaid : Prop := Claim7.holds Tryd.pinned (.plain (OpenSpec.upto fnMangleFamilyStepKeepsPrefixAndProgressesSpec)) fnMangleFamilyStepKeepsPrefixAndProgressesUptoCard
end Rows
end Go.Proofs.YtjinajfejbpicaaDoor
