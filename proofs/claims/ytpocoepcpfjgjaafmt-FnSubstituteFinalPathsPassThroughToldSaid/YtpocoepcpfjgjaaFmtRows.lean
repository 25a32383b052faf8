/-
  NARROWER THAN 'FOR EVERY INPUT', by the rows' own cells (each row's printed sentence says how): FnSubstituteFinalPathsPassThrough: laid · FnPathBetweenChunksPublicExact: laid.
  DERIVED. THE GIVEN ROWS OF THIS SEAT. 2 by the template 'for every input the law returns true; each argument reads behind the call as it read before'; 0 by the template 'total and deterministic' (their statements: YtpocoepcpfjgjaaFmtTotals.lean).
  GIVEN WITH THE SEED: the statements are not yours to turn. If you find one false, say at which input.
  Laid BY PROGRAM, IN A SANDBOX (cutbox-rows.mjs): the forced cells as the released guide's own fill.sh prints them over the translation 0c316c0a5e577ade… (all of the seat's roots in one cut). By AI agents, Wed Nov 11 2026. No macro, syntax, notation, axiom, sorry.
-/
import Derived.Test.YtpocoepcpfjgjaaFmtChecked
import GoSem.PinnedTables
import GoSem.Claim
import GoSem.ClaimJoined
import GoSem.ClaimMapViews
import Derived.JoinedTies
import Derived.KernelRfl
namespace Go.Proofs.YtpocoepcpfjgjaaFmt
/- THE CELL 'sum', in the pinned program and in every row, IS THE sha256 OF THE DUMP (.gsa) THAT YtpocoepcpfjgjaaFmtProg.lean LOADS. Nothing in Lean hashes anything: it is a label: what it is worth is what the hold of that sum in a sandbox is worth. -/
noncomputable def Tryf.pinned : Pinned := { name := "ytpocoepcpfjgjaafmt", sum := "0c316c0a5e577ade073b8db607d535eabcfb205ef01d12bc993eb68a3ad5d9d3", checked := Tryf.checked }
namespace Rows
def none {H : Type} : Left H := { results := [], args := [] }

/- WHAT THE LISTED PACKAGE-LEVEL VARIABLES READ AS WHEN THE CALL BEGINS. Each datum BY PROGRAM (the guide's laid-datum.mjs) off the statement by which the dump's own 'gosem.cut.vars' lays the variable. In a bare row this is a premise. The card (YtpocoepcpfjgjaaFmtCards.lean) ties it to the program's text. -/
def laid_unicode_utf8_acceptRanges {H : Type} : DataW H := .agg [.agg [.lit (.int .u8 128), .lit (.int .u8 191)], .agg [.lit (.int .u8 160), .lit (.int .u8 191)], .agg [.lit (.int .u8 128), .lit (.int .u8 159)], .agg [.lit (.int .u8 144), .lit (.int .u8 191)], .agg [.lit (.int .u8 128), .lit (.int .u8 143)], .agg [.lit (.int .u8 0), .lit (.int .u8 0)], .agg [.lit (.int .u8 0), .lit (.int .u8 0)], .agg [.lit (.int .u8 0), .lit (.int .u8 0)], .agg [.lit (.int .u8 0), .lit (.int .u8 0)], .agg [.lit (.int .u8 0), .lit (.int .u8 0)], .agg [.lit (.int .u8 0), .lit (.int .u8 0)], .agg [.lit (.int .u8 0), .lit (.int .u8 0)], .agg [.lit (.int .u8 0), .lit (.int .u8 0)], .agg [.lit (.int .u8 0), .lit (.int .u8 0)], .agg [.lit (.int .u8 0), .lit (.int .u8 0)], .agg [.lit (.int .u8 0), .lit (.int .u8 0)]]
/-- One of Go's own tables, pinned by name: the form's constant. -/
def laid_unicode_utf8_first : DataW Unit := Go.Pinned.utf8First

/-- 'n011_246.FnSubstituteFinalPathsPassThrough': WHATEVER THE INPUT: true; the input reads as it did. -/
def fnSubstituteFinalPathsPassThroughSpec : ChangeSpec := { name := "fnSubstituteFinalPathsPassThrough", fn := fun _ => fun
  | [d] => { results := [.lit (.bool true)], args := [d] }
  | _ => none }
def fnSubstituteFinalPathsPassThroughRow : OpenClaim := { program := "ytpocoepcpfjgjaafmt", sum := "0c316c0a5e577ade073b8db607d535eabcfb205ef01d12bc993eb68a3ad5d9d3", func := "github.com/evanw/esbuild/n011_246.FnSubstituteFinalPathsPassThrough", spec := "fnSubstituteFinalPathsPassThrough", stops := ["fmt.Sprintf"], inPlace := ["fmt.Sprintf"], unfollowed := true, recurses := true, named := ["unicode/utf8.first", "unicode/utf8.acceptRanges"], plainKeys := false, apart := false, laid := [("unicode/utf8.acceptRanges", laid_unicode_utf8_acceptRanges), ("unicode/utf8.first", laid_unicode_utf8_first)] }
/-- NO THEOREM (fmt's text is open here; it may be false): for the released tool's asking of the row's closed facts alone. THE STATEMENT IS 'FnSubstituteFinalPathsPassThroughToldSaid' (YtpocoepcpfjgjaaFmtCards.lean). -/
def FnSubstituteFinalPathsPassThroughFormAsk : Prop := fnSubstituteFinalPathsPassThroughRow.holds Tryf.pinned (OpenSpec.ofChange fnSubstituteFinalPathsPassThroughSpec)

/-- ITS FALSE NEIGHBOUR: 'it returns false'. Refute it at one input. -/
def fnSubstituteFinalPathsPassThroughWrong : ChangeSpec := { name := "fnSubstituteFinalPathsPassThrough", fn := fun _ => fun
  | [d] => { results := [.lit (.bool false)], args := [d] }
  | _ => none }
def FnSubstituteFinalPathsPassThroughWrongFormAsk : Prop := fnSubstituteFinalPathsPassThroughRow.holds Tryf.pinned (OpenSpec.ofChange fnSubstituteFinalPathsPassThroughWrong)

/-- 'n011_246.FnPathBetweenChunksPublicExact': WHATEVER THE INPUT: true; the input reads as it did. -/
def fnPathBetweenChunksPublicExactSpec : ChangeSpec := { name := "fnPathBetweenChunksPublicExact", fn := fun _ => fun
  | [d1, d2, d3] => { results := [.lit (.bool true)], args := [d1, d2, d3] }
  | _ => none }
def fnPathBetweenChunksPublicExactRow : OpenClaim := { program := "ytpocoepcpfjgjaafmt", sum := "0c316c0a5e577ade073b8db607d535eabcfb205ef01d12bc993eb68a3ad5d9d3", func := "github.com/evanw/esbuild/n011_246.FnPathBetweenChunksPublicExact", spec := "fnPathBetweenChunksPublicExact", stops := ["fmt.Sprintf"], inPlace := ["fmt.Sprintf"], unfollowed := true, recurses := true, named := ["unicode/utf8.first", "unicode/utf8.acceptRanges"], plainKeys := false, apart := false, laid := [("unicode/utf8.acceptRanges", laid_unicode_utf8_acceptRanges), ("unicode/utf8.first", laid_unicode_utf8_first)] }
/-- NO THEOREM (fmt's text is open here; it may be false): for the released tool's asking of the row's closed facts alone. THE STATEMENT IS 'FnPathBetweenChunksPublicExactToldSaid' (YtpocoepcpfjgjaaFmtCards.lean). -/
def FnPathBetweenChunksPublicExactFormAsk : Prop := fnPathBetweenChunksPublicExactRow.holds Tryf.pinned (OpenSpec.ofChange fnPathBetweenChunksPublicExactSpec)

/-- ITS FALSE NEIGHBOUR: 'it returns false'. Refute it at one input. -/
def fnPathBetweenChunksPublicExactWrong : ChangeSpec := { name := "fnPathBetweenChunksPublicExact", fn := fun _ => fun
  | [d1, d2, d3] => { results := [.lit (.bool false)], args := [d1, d2, d3] }
  | _ => none }
def FnPathBetweenChunksPublicExactWrongFormAsk : Prop := fnPathBetweenChunksPublicExactRow.holds Tryf.pinned (OpenSpec.ofChange fnPathBetweenChunksPublicExactWrong)

end Rows
end Go.Proofs.YtpocoepcpfjgjaaFmt
