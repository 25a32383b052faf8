/-
  No cell of these rows narrows 'for every input' (looked for: loops, veiled, ifaces, maps, wideKeys, modest, calm, conditions, laid).
  DERIVED. THE GIVEN ROWS OF THIS SEAT. 1 by the template 'for every input the law returns true; each argument reads behind the call as it read before'; 0 by the template 'total and deterministic' (their statements: YtldanceblmnmcaaFmtTotals.lean).
  GIVEN WITH THE SEED: the statements are not yours to turn. If you find one false, say at which input.
  Laid BY PROGRAM, IN A SANDBOX (cutbox-rows.mjs): the forced cells as the released guide's own fill.sh prints them over the translation 753e42cf97fdcc9e… (all of the seat's roots in one cut). By AI agents, Wed Nov 11 2026. No macro, syntax, notation, axiom, sorry.
-/
import Derived.Test.YtldanceblmnmcaaFmtChecked
import GoSem.Claim
import GoSem.ClaimJoined
import GoSem.ClaimMapViews
import Derived.JoinedTies
import Derived.KernelRfl
namespace Go.Proofs.YtldanceblmnmcaaFmt
/- THE CELL 'sum', in the pinned program and in every row, IS THE sha256 OF THE DUMP (.gsa) THAT YtldanceblmnmcaaFmtProg.lean LOADS. Nothing in Lean hashes anything: it is a label: what it is worth is what the hold of that sum in a sandbox is worth. -/
noncomputable def Tryf.pinned : Pinned := { name := "ytldanceblmnmcaafmt", sum := "753e42cf97fdcc9ef42b0202d993b1bc04e487a75ab2e584b2f764a6d032d788", checked := Tryf.checked }
namespace Rows
def none {H : Type} : Left H := { results := [], args := [] }

/-- 'n011_27.FnMakePrettyPathsDisabledAndSuffixOnlyDecorate': WHATEVER THE INPUT: true; the input reads as it did. -/
def fnMakePrettyPathsDisabledAndSuffixOnlyDecorateSpec : ChangeSpec := { name := "fnMakePrettyPathsDisabledAndSuffixOnlyDecorate", fn := fun _ => fun
  | [d1, d2, d3, d4] => { results := [.lit (.bool true)], args := [d1, d2, d3, d4] }
  | _ => none }
def fnMakePrettyPathsDisabledAndSuffixOnlyDecorateRow : OpenClaim := { program := "ytldanceblmnmcaafmt", sum := "753e42cf97fdcc9ef42b0202d993b1bc04e487a75ab2e584b2f764a6d032d788", func := "github.com/evanw/esbuild/n011_27.FnMakePrettyPathsDisabledAndSuffixOnlyDecorate", spec := "fnMakePrettyPathsDisabledAndSuffixOnlyDecorate", stops := ["fmt.Sprintf"], inPlace := ["fmt.Sprintf"], unfollowed := true, recurses := true, apart := false }
/-- NO THEOREM (fmt's text is open here; it may be false): for the released tool's asking of the row's closed facts alone. THE STATEMENT IS 'FnMakePrettyPathsDisabledAndSuffixOnlyDecorateToldSaid' (YtldanceblmnmcaaFmtCards.lean). -/
def FnMakePrettyPathsDisabledAndSuffixOnlyDecorateFormAsk : Prop := fnMakePrettyPathsDisabledAndSuffixOnlyDecorateRow.holds Tryf.pinned (OpenSpec.ofChange fnMakePrettyPathsDisabledAndSuffixOnlyDecorateSpec)

/-- ITS FALSE NEIGHBOUR: 'it returns false'. Refute it at one input. -/
def fnMakePrettyPathsDisabledAndSuffixOnlyDecorateWrong : ChangeSpec := { name := "fnMakePrettyPathsDisabledAndSuffixOnlyDecorate", fn := fun _ => fun
  | [d1, d2, d3, d4] => { results := [.lit (.bool false)], args := [d1, d2, d3, d4] }
  | _ => none }
def FnMakePrettyPathsDisabledAndSuffixOnlyDecorateWrongFormAsk : Prop := fnMakePrettyPathsDisabledAndSuffixOnlyDecorateRow.holds Tryf.pinned (OpenSpec.ofChange fnMakePrettyPathsDisabledAndSuffixOnlyDecorateWrong)

end Rows
end Go.Proofs.YtldanceblmnmcaaFmt
