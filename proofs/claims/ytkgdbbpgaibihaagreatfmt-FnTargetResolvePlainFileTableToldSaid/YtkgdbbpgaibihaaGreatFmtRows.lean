/-
  No cell of these rows narrows 'for every input' (looked for: loops, veiled, ifaces, maps, wideKeys, modest, calm, conditions, laid).
  DERIVED. THE GIVEN ROWS OF THIS SEAT. 2 by the template 'for every input the law returns true; each argument reads behind the call as it read before'; 0 by the template 'total and deterministic' (their statements: YtkgdbbpgaibihaaGreatFmtTotals.lean).
  GIVEN WITH THE SEED: the statements are not yours to turn. If you find one false, say at which input.
  Laid BY PROGRAM, IN A SANDBOX (cutbox-rows.mjs): the forced cells as the released guide's own fill.sh prints them over the translation 7a362aafdbfa4610… (all of the seat's roots in one cut). By AI agents, Wed Nov 11 2026. No macro, syntax, notation, axiom, sorry.
-/
import Derived.Test.YtkgdbbpgaibihaaGreatFmtChecked
import GoSem.Claim
import GoSem.ClaimJoined
import GoSem.ClaimMapViews
import Derived.JoinedTies
import Derived.KernelRfl
namespace Go.Proofs.YtkgdbbpgaibihaaGreatFmt
/- THE CELL 'sum', in the pinned program and in every row, IS THE sha256 OF THE DUMP (.gsa) THAT YtkgdbbpgaibihaaGreatFmtProg.lean LOADS. Nothing in Lean hashes anything: it is a label: what it is worth is what the hold of that sum in a sandbox is worth. -/
noncomputable def Tryz.pinned : Pinned := { name := "ytkgdbbpgaibihaagreatfmt", sum := "7a362aafdbfa4610be573f124f1a23c0ad5d8699eda398646f8e6dae7c061495", checked := Tryz.checked }
namespace Rows
def none {H : Type} : Left H := { results := [], args := [] }

/-- 'n011_278.FnTargetResolvePatternSubstitutesOnce': WHATEVER THE INPUT: true; the input reads as it did. -/
def fnTargetResolvePatternSubstitutesOnceSpec : ChangeSpec := { name := "fnTargetResolvePatternSubstitutesOnce", fn := fun _ => fun
  | [d1, d2, d3, d4, d5] => { results := [.lit (.bool true)], args := [d1, d2, d3, d4, d5] }
  | _ => none }
def fnTargetResolvePatternSubstitutesOnceRow : OpenClaim := { program := "ytkgdbbpgaibihaagreatfmt", sum := "7a362aafdbfa4610be573f124f1a23c0ad5d8699eda398646f8e6dae7c061495", func := "github.com/evanw/esbuild/n011_278.FnTargetResolvePatternSubstitutesOnce", spec := "fnTargetResolvePatternSubstitutesOnce", stops := ["fmt.Sprintf"], inPlace := ["fmt.Sprintf", "internal/bytealg.IndexByteString", "internal/abi.NoEscape", "internal/bytealg.MakeNoZero"], recurses := true, plainKeys := false, apart := false }
/-- NO THEOREM (fmt's text is open here; it may be false): for the released tool's asking of the row's closed facts alone. THE STATEMENT IS 'FnTargetResolvePatternSubstitutesOnceToldSaid' (YtkgdbbpgaibihaaGreatFmtCards.lean). -/
def FnTargetResolvePatternSubstitutesOnceFormAsk : Prop := fnTargetResolvePatternSubstitutesOnceRow.holds Tryz.pinned (OpenSpec.ofChange fnTargetResolvePatternSubstitutesOnceSpec)

/-- ITS FALSE NEIGHBOUR: 'it returns false'. Refute it at one input. -/
def fnTargetResolvePatternSubstitutesOnceWrong : ChangeSpec := { name := "fnTargetResolvePatternSubstitutesOnce", fn := fun _ => fun
  | [d1, d2, d3, d4, d5] => { results := [.lit (.bool false)], args := [d1, d2, d3, d4, d5] }
  | _ => none }
def FnTargetResolvePatternSubstitutesOnceWrongFormAsk : Prop := fnTargetResolvePatternSubstitutesOnceRow.holds Tryz.pinned (OpenSpec.ofChange fnTargetResolvePatternSubstitutesOnceWrong)

/-- 'n011_278.FnTargetResolvePlainFileTable': WHATEVER THE INPUT: true; the input reads as it did. -/
def fnTargetResolvePlainFileTableSpec : ChangeSpec := { name := "fnTargetResolvePlainFileTable", fn := fun _ => fun
  | [d1, d2, d3, d4] => { results := [.lit (.bool true)], args := [d1, d2, d3, d4] }
  | _ => none }
def fnTargetResolvePlainFileTableRow : OpenClaim := { program := "ytkgdbbpgaibihaagreatfmt", sum := "7a362aafdbfa4610be573f124f1a23c0ad5d8699eda398646f8e6dae7c061495", func := "github.com/evanw/esbuild/n011_278.FnTargetResolvePlainFileTable", spec := "fnTargetResolvePlainFileTable", stops := ["fmt.Sprintf"], inPlace := ["fmt.Sprintf", "internal/bytealg.IndexByteString", "internal/abi.NoEscape", "internal/bytealg.MakeNoZero"], recurses := true, plainKeys := false, apart := false }
/-- NO THEOREM (fmt's text is open here; it may be false): for the released tool's asking of the row's closed facts alone. THE STATEMENT IS 'FnTargetResolvePlainFileTableToldSaid' (YtkgdbbpgaibihaaGreatFmtCards.lean). -/
def FnTargetResolvePlainFileTableFormAsk : Prop := fnTargetResolvePlainFileTableRow.holds Tryz.pinned (OpenSpec.ofChange fnTargetResolvePlainFileTableSpec)

/-- ITS FALSE NEIGHBOUR: 'it returns false'. Refute it at one input. -/
def fnTargetResolvePlainFileTableWrong : ChangeSpec := { name := "fnTargetResolvePlainFileTable", fn := fun _ => fun
  | [d1, d2, d3, d4] => { results := [.lit (.bool false)], args := [d1, d2, d3, d4] }
  | _ => none }
def FnTargetResolvePlainFileTableWrongFormAsk : Prop := fnTargetResolvePlainFileTableRow.holds Tryz.pinned (OpenSpec.ofChange fnTargetResolvePlainFileTableWrong)

end Rows
end Go.Proofs.YtkgdbbpgaibihaaGreatFmt
