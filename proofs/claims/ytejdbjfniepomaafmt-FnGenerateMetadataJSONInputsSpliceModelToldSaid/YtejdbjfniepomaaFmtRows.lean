/-
  No cell of these rows narrows 'for every input' (looked for: loops, veiled, ifaces, maps, wideKeys, modest, calm, conditions, laid).
  DERIVED. THE GIVEN ROWS OF THIS SEAT. 2 by the template 'for every input the law returns true; each argument reads behind the call as it read before'; 0 by the template 'total and deterministic' (their statements: YtejdbjfniepomaaFmtTotals.lean).
  GIVEN WITH THE SEED: the statements are not yours to turn. If you find one false, say at which input.
  Laid BY PROGRAM, IN A SANDBOX (cutbox-rows.mjs): the forced cells as the released guide's own fill.sh prints them over the translation f0075b9d72285c46… (all of the seat's roots in one cut). By AI agents, Wed Nov 11 2026. No macro, syntax, notation, axiom, sorry.
-/
import Derived.Test.YtejdbjfniepomaaFmtChecked
import GoSem.Claim
import GoSem.ClaimJoined
import GoSem.ClaimMapViews
import Derived.JoinedTies
import Derived.KernelRfl
namespace Go.Proofs.YtejdbjfniepomaaFmt
/- THE CELL 'sum', in the pinned program and in every row, IS THE sha256 OF THE DUMP (.gsa) THAT YtejdbjfniepomaaFmtProg.lean LOADS. Nothing in Lean hashes anything: it is a label: what it is worth is what the hold of that sum in a sandbox is worth. -/
noncomputable def Tryf.pinned : Pinned := { name := "ytejdbjfniepomaafmt", sum := "f0075b9d72285c46f235d30157fa97e377e3469b64a3f8c5da7b8bbeb437b532", checked := Tryf.checked }
namespace Rows
def none {H : Type} : Left H := { results := [], args := [] }

/-- 'n011_312.FnGenerateMetadataJSONIgnoresIndirection': WHATEVER THE INPUT: true; the input reads as it did. -/
def fnGenerateMetadataJSONIgnoresIndirectionSpec : ChangeSpec := { name := "fnGenerateMetadataJSONIgnoresIndirection", fn := fun _ => fun
  | [d1, d2, d3] => { results := [.lit (.bool true)], args := [d1, d2, d3] }
  | _ => none }
def fnGenerateMetadataJSONIgnoresIndirectionRow : OpenClaim := { program := "ytejdbjfniepomaafmt", sum := "f0075b9d72285c46f235d30157fa97e377e3469b64a3f8c5da7b8bbeb437b532", func := "github.com/evanw/esbuild/n011_312.FnGenerateMetadataJSONIgnoresIndirection", spec := "fnGenerateMetadataJSONIgnoresIndirection", stops := ["fmt.Sprintf"], inPlace := ["internal/abi.NoEscape", "internal/bytealg.MakeNoZero", "fmt.Sprintf"], unfollowed := true, recurses := true, plainKeys := false, apart := false }
/-- NO THEOREM (fmt's text is open here; it may be false): for the released tool's asking of the row's closed facts alone. THE STATEMENT IS 'FnGenerateMetadataJSONIgnoresIndirectionToldSaid' (YtejdbjfniepomaaFmtCards.lean). -/
def FnGenerateMetadataJSONIgnoresIndirectionFormAsk : Prop := fnGenerateMetadataJSONIgnoresIndirectionRow.holds Tryf.pinned (OpenSpec.ofChange fnGenerateMetadataJSONIgnoresIndirectionSpec)

/-- ITS FALSE NEIGHBOUR: 'it returns false'. Refute it at one input. -/
def fnGenerateMetadataJSONIgnoresIndirectionWrong : ChangeSpec := { name := "fnGenerateMetadataJSONIgnoresIndirection", fn := fun _ => fun
  | [d1, d2, d3] => { results := [.lit (.bool false)], args := [d1, d2, d3] }
  | _ => none }
def FnGenerateMetadataJSONIgnoresIndirectionWrongFormAsk : Prop := fnGenerateMetadataJSONIgnoresIndirectionRow.holds Tryf.pinned (OpenSpec.ofChange fnGenerateMetadataJSONIgnoresIndirectionWrong)

/-- 'n011_312.FnGenerateMetadataJSONInputsSpliceModel': WHATEVER THE INPUT: true; the input reads as it did. -/
def fnGenerateMetadataJSONInputsSpliceModelSpec : ChangeSpec := { name := "fnGenerateMetadataJSONInputsSpliceModel", fn := fun _ => fun
  | [d1, d2, d3] => { results := [.lit (.bool true)], args := [d1, d2, d3] }
  | _ => none }
def fnGenerateMetadataJSONInputsSpliceModelRow : OpenClaim := { program := "ytejdbjfniepomaafmt", sum := "f0075b9d72285c46f235d30157fa97e377e3469b64a3f8c5da7b8bbeb437b532", func := "github.com/evanw/esbuild/n011_312.FnGenerateMetadataJSONInputsSpliceModel", spec := "fnGenerateMetadataJSONInputsSpliceModel", stops := ["fmt.Sprintf"], inPlace := ["internal/abi.NoEscape", "internal/bytealg.MakeNoZero", "fmt.Sprintf"], unfollowed := true, recurses := true, plainKeys := false, apart := false }
/-- NO THEOREM (fmt's text is open here; it may be false): for the released tool's asking of the row's closed facts alone. THE STATEMENT IS 'FnGenerateMetadataJSONInputsSpliceModelToldSaid' (YtejdbjfniepomaaFmtCards.lean). -/
def FnGenerateMetadataJSONInputsSpliceModelFormAsk : Prop := fnGenerateMetadataJSONInputsSpliceModelRow.holds Tryf.pinned (OpenSpec.ofChange fnGenerateMetadataJSONInputsSpliceModelSpec)

/-- ITS FALSE NEIGHBOUR: 'it returns false'. Refute it at one input. -/
def fnGenerateMetadataJSONInputsSpliceModelWrong : ChangeSpec := { name := "fnGenerateMetadataJSONInputsSpliceModel", fn := fun _ => fun
  | [d1, d2, d3] => { results := [.lit (.bool false)], args := [d1, d2, d3] }
  | _ => none }
def FnGenerateMetadataJSONInputsSpliceModelWrongFormAsk : Prop := fnGenerateMetadataJSONInputsSpliceModelRow.holds Tryf.pinned (OpenSpec.ofChange fnGenerateMetadataJSONInputsSpliceModelWrong)

end Rows
end Go.Proofs.YtejdbjfniepomaaFmt
