/-
  DERIVED. GIVEN WITH THE SEED: THE CARDS: each row of YtkkekdmkepkkoaaDoorRows.lean that lists a variable, with what it lists TIED to the program's text (the seventh form; the later family's looks); each row that meets fmt, with fmt's text TOLD by the authors' own Lean function (tested against real Go, not proved from fmt's source: count such statements apart). THE CARD IS WHAT COUNTS. Prove the row's statement (the work); the ties are given (YtkkekdmkepkkoaaDoorTie.lean); close each card by the builder's one call (the guide's Derived/Test/ToyasCard.lean, 'card_holds'). Laid BY PROGRAM, IN A SANDBOX (cutbox-door.mjs). By AI agents, Wed Nov 11 2026. No macro, syntax, notation, axiom, sorry.
-/
import Derived.Test.YtkkekdmkepkkoaaDoorRows
import GoSem.ClaimSeven
namespace Go.Proofs.YtkkekdmkepkkoaaDoor
namespace Rows

/-- THE TIED CARD OF 'n011_193.FnCanonicalPathIdempotentNoBackslash'. -/
def fnCanonicalPathIdempotentNoBackslashCard : Claim7 := { stood := { row := fnCanonicalPathIdempotentNoBackslashRow, standIns := [], harness := (true, "412c1123b0139f09f71083af4e74077820742841f0c7e6239752580a2a5b2993"), looks := false }, kinds := [], alts := [], laidByText := true, laidKinds := [.data, .pinned, .pinned], laidTests := true, laidLooks := .later }
def FnCanonicalPathIdempotentNoBackslashCardSaid : Prop := Claim7.holds Tryd.pinned (.plain (OpenSpec.ofChange fnCanonicalPathIdempotentNoBackslashSpec)) fnCanonicalPathIdempotentNoBackslashCard

/-- THE TIED CARD OF 'n011_193.FnCanonicalPathASCIIModel'. -/
def fnCanonicalPathASCIIModelCard : Claim7 := { stood := { row := fnCanonicalPathASCIIModelRow, standIns := [], harness := (true, "412c1123b0139f09f71083af4e74077820742841f0c7e6239752580a2a5b2993"), looks := false }, kinds := [], alts := [], laidByText := true, laidKinds := [.data, .pinned, .pinned], laidTests := true, laidLooks := .later }
def FnCanonicalPathASCIIModelCardSaid : Prop := Claim7.holds Tryd.pinned (.plain (OpenSpec.ofChange fnCanonicalPathASCIIModelSpec)) fnCanonicalPathASCIIModelCard

/-- THE SECOND FORM's CARD OF 'n011_193.FnCanonicalPathIdempotentNoBackslash'. -/
def fnCanonicalPathIdempotentNoBackslashUptoCard : Claim7 := { stood := { row := fnCanonicalPathIdempotentNoBackslashUptoRow, standIns := [], harness := (true, "412c1123b0139f09f71083af4e74077820742841f0c7e6239752580a2a5b2993"), looks := false }, kinds := [], alts := [], laidByText := true, laidKinds := [.data, .pinned, .pinned], laidTests := true, laidLooks := .later }
def FnCanonicalPathIdempotentNoBackslashUptoCardSaid : Prop := Claim7.holds Tryd.pinned (.plain (OpenSpec.upto fnCanonicalPathIdempotentNoBackslashSpec)) fnCanonicalPathIdempotentNoBackslashUptoCard

/-- THE SECOND FORM's CARD OF 'n011_193.FnCanonicalPathASCIIModel'. -/
def fnCanonicalPathASCIIModelUptoCard : Claim7 := { stood := { row := fnCanonicalPathASCIIModelUptoRow, standIns := [], harness := (true, "412c1123b0139f09f71083af4e74077820742841f0c7e6239752580a2a5b2993"), looks := false }, kinds := [], alts := [], laidByText := true, laidKinds := [.data, .pinned, .pinned], laidTests := true, laidLooks := .later }
def FnCanonicalPathASCIIModelUptoCardSaid : Prop := Claim7.holds Tryd.pinned (.plain (OpenSpec.upto fnCanonicalPathASCIIModelSpec)) fnCanonicalPathASCIIModelUptoCard
end Rows
end Go.Proofs.YtkkekdmkepkkoaaDoor
