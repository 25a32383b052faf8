/-
  DERIVED. GIVEN WITH THE SEED: THE CARDS: each row of YtcpaepfhjhcaoaaDoorRows.lean that lists a variable, with what it lists TIED to the program's text (the seventh form; the later family's looks); each row that meets fmt, with fmt's text TOLD by the authors' own Lean function (tested against real Go, not proved from fmt's source: count such statements apart). THE CARD IS WHAT COUNTS. Prove the row's statement (the work); the ties are given (YtcpaepfhjhcaoaaDoorTie.lean); close each card by the builder's one call (the guide's Derived/Test/ToyasCard.lean, 'card_holds'). Laid BY PROGRAM, IN A SANDBOX (cutbox-door.mjs). By AI agents, Wed Nov 11 2026. No macro, syntax, notation, axiom, sorry.
-/
import Derived.Test.YtcpaepfhjhcaoaaDoorRows
import GoSem.ClaimSeven
namespace Go.Proofs.YtcpaepfhjhcaoaaDoor
namespace Rows

/-- THE TIED CARD OF 'n011_254.FnLowestCommonAncestorIsCommonComponentPrefix'. -/
def fnLowestCommonAncestorIsCommonComponentPrefixCard : Claim7 := { stood := { row := fnLowestCommonAncestorIsCommonComponentPrefixRow, standIns := [], harness := (true, "01a04b3384f74c2b3b56a9d6b74fd9b5bd86bc5f38c7405b10bdbe81947d8a03"), looks := false }, kinds := [], alts := [], laidByText := true, laidKinds := [.data, .pinned, .pinned], laidTests := true, laidLooks := .later }
def FnLowestCommonAncestorIsCommonComponentPrefixCardSaid : Prop := Claim7.holds Tryd.pinned (.plain (OpenSpec.ofChange fnLowestCommonAncestorIsCommonComponentPrefixSpec)) fnLowestCommonAncestorIsCommonComponentPrefixCard

/-- THE TIED CARD OF 'n011_254.FnFileInAncestorKeepsAncestor'. -/
def fnFileInAncestorKeepsAncestorCard : Claim7 := { stood := { row := fnFileInAncestorKeepsAncestorRow, standIns := [], harness := (true, "01a04b3384f74c2b3b56a9d6b74fd9b5bd86bc5f38c7405b10bdbe81947d8a03"), looks := false }, kinds := [], alts := [], laidByText := true, laidKinds := [.data, .pinned, .pinned], laidTests := true, laidLooks := .later }
def FnFileInAncestorKeepsAncestorCardSaid : Prop := Claim7.holds Tryd.pinned (.plain (OpenSpec.ofChange fnFileInAncestorKeepsAncestorSpec)) fnFileInAncestorKeepsAncestorCard

/-- THE SECOND FORM's CARD OF 'n011_254.FnLowestCommonAncestorIsCommonComponentPrefix'. -/
def fnLowestCommonAncestorIsCommonComponentPrefixUptoCard : Claim7 := { stood := { row := fnLowestCommonAncestorIsCommonComponentPrefixUptoRow, standIns := [], harness := (true, "01a04b3384f74c2b3b56a9d6b74fd9b5bd86bc5f38c7405b10bdbe81947d8a03"), looks := false }, kinds := [], alts := [], laidByText := true, laidKinds := [.data, .pinned, .pinned], laidTests := true, laidLooks := .later }
def FnLowestCommonAncestorIsCommonComponentPrefixUptoCardSaid : Prop := Claim7.holds Tryd.pinned (.plain (OpenSpec.upto fnLowestCommonAncestorIsCommonComponentPrefixSpec)) fnLowestCommonAncestorIsCommonComponentPrefixUptoCard

/-- THE SECOND FORM's CARD OF 'n011_254.FnFileInAncestorKeepsAncestor'. -/
def fnFileInAncestorKeepsAncestorUptoCard : Claim7 := { stood := { row := fnFileInAncestorKeepsAncestorUptoRow, standIns := [], harness := (true, "01a04b3384f74c2b3b56a9d6b74fd9b5bd86bc5f38c7405b10bdbe81947d8a03"), looks := false }, kinds := [], alts := [], laidByText := true, laidKinds := [.data, .pinned, .pinned], laidTests := true, laidLooks := .later }
def FnFileInAncestorKeepsAncestorUptoCardSaid : Prop := Claim7.holds Tryd.pinned (.plain (OpenSpec.upto fnFileInAncestorKeepsAncestorSpec)) fnFileInAncestorKeepsAncestorUptoCard
end Rows
end Go.Proofs.YtcpaepfhjhcaoaaDoor
