/-
  DERIVED. GIVEN WITH THE SEED: THE CARDS: each row of YtejdbjfniepomaaDoorRows.lean that lists a variable, with what it lists TIED to the program's text (the seventh form; the later family's looks); each row that meets fmt, with fmt's text TOLD by the authors' own Lean function (tested against real Go, not proved from fmt's source: count such statements apart). THE CARD IS WHAT COUNTS. Prove the row's statement (the work); the ties are given (YtejdbjfniepomaaDoorTie.lean); close each card by the builder's one call (the guide's Derived/Test/ToyasCard.lean, 'card_holds'). Laid BY PROGRAM, IN A SANDBOX (cutbox-door.mjs). By AI agents, Wed Nov 11 2026. No macro, syntax, notation, axiom, sorry.
-/
import Derived.Test.YtejdbjfniepomaaDoorRows
import GoSem.ClaimSeven
namespace Go.Proofs.YtejdbjfniepomaaDoor
namespace Rows

/-- THE TIED CARD OF 'n011_312.FnPathRelativeToOutbaseVirtualMatchesModel'. -/
def fnPathRelativeToOutbaseVirtualMatchesModelCard : Claim7 := { stood := { row := fnPathRelativeToOutbaseVirtualMatchesModelRow, standIns := [], harness := (true, "0b86a7e8b9b202bd980989eec38277676e8a4b5b0777ac97b80dbd9b98c593ea"), looks := false }, kinds := [], alts := [], laidByText := true, laidKinds := [.data, .pinned], laidTests := true, laidLooks := .later }
def FnPathRelativeToOutbaseVirtualMatchesModelCardSaid : Prop := Claim7.holds Tryd.pinned (.plain (OpenSpec.ofChange fnPathRelativeToOutbaseVirtualMatchesModelSpec)) fnPathRelativeToOutbaseVirtualMatchesModelCard

/-- THE TIED CARD OF 'n011_312.FnPathRelativeToOutbaseVirtualCleanName'. -/
def fnPathRelativeToOutbaseVirtualCleanNameCard : Claim7 := { stood := { row := fnPathRelativeToOutbaseVirtualCleanNameRow, standIns := [], harness := (true, "0b86a7e8b9b202bd980989eec38277676e8a4b5b0777ac97b80dbd9b98c593ea"), looks := false }, kinds := [], alts := [], laidByText := true, laidKinds := [.data, .pinned], laidTests := true, laidLooks := .later }
def FnPathRelativeToOutbaseVirtualCleanNameCardSaid : Prop := Claim7.holds Tryd.pinned (.plain (OpenSpec.ofChange fnPathRelativeToOutbaseVirtualCleanNameSpec)) fnPathRelativeToOutbaseVirtualCleanNameCard

/-- THE SECOND FORM's CARD OF 'n011_312.FnPathRelativeToOutbaseVirtualMatchesModel'. -/
def fnPathRelativeToOutbaseVirtualMatchesModelUptoCard : Claim7 := { stood := { row := fnPathRelativeToOutbaseVirtualMatchesModelUptoRow, standIns := [], harness := (true, "0b86a7e8b9b202bd980989eec38277676e8a4b5b0777ac97b80dbd9b98c593ea"), looks := false }, kinds := [], alts := [], laidByText := true, laidKinds := [.data, .pinned], laidTests := true, laidLooks := .later }
def FnPathRelativeToOutbaseVirtualMatchesModelUptoCardSaid : Prop := Claim7.holds Tryd.pinned (.plain (OpenSpec.upto fnPathRelativeToOutbaseVirtualMatchesModelSpec)) fnPathRelativeToOutbaseVirtualMatchesModelUptoCard

/-- THE SECOND FORM's CARD OF 'n011_312.FnPathRelativeToOutbaseVirtualCleanName'. -/
def fnPathRelativeToOutbaseVirtualCleanNameUptoCard : Claim7 := { stood := { row := fnPathRelativeToOutbaseVirtualCleanNameUptoRow, standIns := [], harness := (true, "0b86a7e8b9b202bd980989eec38277676e8a4b5b0777ac97b80dbd9b98c593ea"), looks := false }, kinds := [], alts := [], laidByText := true, laidKinds := [.data, .pinned], laidTests := true, laidLooks := .later }
def FnPathRelativeToOutbaseVirtualCleanNameUptoCardSaid : Prop := Claim7.holds Tryd.pinned (.plain (OpenSpec.upto fnPathRelativeToOutbaseVirtualCleanNameSpec)) fnPathRelativeToOutbaseVirtualCleanNameUptoCard
end Rows
end Go.Proofs.YtejdbjfniepomaaDoor
