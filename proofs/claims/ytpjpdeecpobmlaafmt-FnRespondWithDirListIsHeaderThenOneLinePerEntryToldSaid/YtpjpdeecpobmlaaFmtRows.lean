/-
  No cell of these rows narrows 'for every input' (looked for: loops, veiled, ifaces, maps, wideKeys, modest, calm, conditions, laid).
  DERIVED. THE GIVEN ROWS OF THIS SEAT. 2 by the template 'for every input the law returns true; each argument reads behind the call as it read before'; 0 by the template 'total and deterministic' (their statements: YtpjpdeecpobmlaaFmtTotals.lean).
  GIVEN WITH THE SEED: the statements are not yours to turn. If you find one false, say at which input.
  Laid BY PROGRAM, IN A SANDBOX (cutbox-rows.mjs): the forced cells as the released guide's own fill.sh prints them over the translation 54a0b387c2329972… (all of the seat's roots in one cut). By AI agents, Wed Nov 11 2026. No macro, syntax, notation, axiom, sorry.
-/
import Derived.Test.YtpjpdeecpobmlaaFmtChecked
import GoSem.Claim
import GoSem.ClaimJoined
import GoSem.ClaimMapViews
import Derived.JoinedTies
import Derived.KernelRfl
namespace Go.Proofs.YtpjpdeecpobmlaaFmt
/- THE CELL 'sum', in the pinned program and in every row, IS THE sha256 OF THE DUMP (.gsa) THAT YtpjpdeecpobmlaaFmtProg.lean LOADS. Nothing in Lean hashes anything: it is a label: what it is worth is what the hold of that sum in a sandbox is worth. -/
noncomputable def Tryf.pinned : Pinned := { name := "ytpjpdeecpobmlaafmt", sum := "54a0b387c232997276d9814d2b34327537e83c3c36f5dd6881ff1cfe48881ec7", checked := Tryf.checked }
namespace Rows
def none {H : Type} : Left H := { results := [], args := [] }

/-- 'n011_137.FnRespondWithDirListNamesAddNoTags': WHATEVER THE INPUT: true; the input reads as it did. -/
def fnRespondWithDirListNamesAddNoTagsSpec : ChangeSpec := { name := "fnRespondWithDirListNamesAddNoTags", fn := fun _ => fun
  | [d1, d2, d3] => { results := [.lit (.bool true)], args := [d1, d2, d3] }
  | _ => none }
def fnRespondWithDirListNamesAddNoTagsRow : OpenClaim := { program := "ytpjpdeecpobmlaafmt", sum := "54a0b387c232997276d9814d2b34327537e83c3c36f5dd6881ff1cfe48881ec7", func := "github.com/evanw/esbuild/n011_137.FnRespondWithDirListNamesAddNoTags", spec := "fnRespondWithDirListNamesAddNoTags", stops := ["fmt.Sprintf"], inPlace := ["internal/abi.NoEscape", "internal/bytealg.MakeNoZero", "fmt.Sprintf"], recurses := true, apart := false }
/-- NO THEOREM (fmt's text is open here; it may be false): for the released tool's asking of the row's closed facts alone. THE STATEMENT IS 'FnRespondWithDirListNamesAddNoTagsToldSaid' (YtpjpdeecpobmlaaFmtCards.lean). -/
def FnRespondWithDirListNamesAddNoTagsFormAsk : Prop := fnRespondWithDirListNamesAddNoTagsRow.holds Tryf.pinned (OpenSpec.ofChange fnRespondWithDirListNamesAddNoTagsSpec)

/-- ITS FALSE NEIGHBOUR: 'it returns false'. Refute it at one input. -/
def fnRespondWithDirListNamesAddNoTagsWrong : ChangeSpec := { name := "fnRespondWithDirListNamesAddNoTags", fn := fun _ => fun
  | [d1, d2, d3] => { results := [.lit (.bool false)], args := [d1, d2, d3] }
  | _ => none }
def FnRespondWithDirListNamesAddNoTagsWrongFormAsk : Prop := fnRespondWithDirListNamesAddNoTagsRow.holds Tryf.pinned (OpenSpec.ofChange fnRespondWithDirListNamesAddNoTagsWrong)

/-- 'n011_137.FnRespondWithDirListIsHeaderThenOneLinePerEntry': WHATEVER THE INPUT: true; the input reads as it did. -/
def fnRespondWithDirListIsHeaderThenOneLinePerEntrySpec : ChangeSpec := { name := "fnRespondWithDirListIsHeaderThenOneLinePerEntry", fn := fun _ => fun
  | [d1, d2, d3] => { results := [.lit (.bool true)], args := [d1, d2, d3] }
  | _ => none }
def fnRespondWithDirListIsHeaderThenOneLinePerEntryRow : OpenClaim := { program := "ytpjpdeecpobmlaafmt", sum := "54a0b387c232997276d9814d2b34327537e83c3c36f5dd6881ff1cfe48881ec7", func := "github.com/evanw/esbuild/n011_137.FnRespondWithDirListIsHeaderThenOneLinePerEntry", spec := "fnRespondWithDirListIsHeaderThenOneLinePerEntry", stops := ["fmt.Sprintf"], inPlace := ["internal/abi.NoEscape", "internal/bytealg.MakeNoZero", "fmt.Sprintf"], recurses := true, apart := false }
/-- NO THEOREM (fmt's text is open here; it may be false): for the released tool's asking of the row's closed facts alone. THE STATEMENT IS 'FnRespondWithDirListIsHeaderThenOneLinePerEntryToldSaid' (YtpjpdeecpobmlaaFmtCards.lean). -/
def FnRespondWithDirListIsHeaderThenOneLinePerEntryFormAsk : Prop := fnRespondWithDirListIsHeaderThenOneLinePerEntryRow.holds Tryf.pinned (OpenSpec.ofChange fnRespondWithDirListIsHeaderThenOneLinePerEntrySpec)

/-- ITS FALSE NEIGHBOUR: 'it returns false'. Refute it at one input. -/
def fnRespondWithDirListIsHeaderThenOneLinePerEntryWrong : ChangeSpec := { name := "fnRespondWithDirListIsHeaderThenOneLinePerEntry", fn := fun _ => fun
  | [d1, d2, d3] => { results := [.lit (.bool false)], args := [d1, d2, d3] }
  | _ => none }
def FnRespondWithDirListIsHeaderThenOneLinePerEntryWrongFormAsk : Prop := fnRespondWithDirListIsHeaderThenOneLinePerEntryRow.holds Tryf.pinned (OpenSpec.ofChange fnRespondWithDirListIsHeaderThenOneLinePerEntryWrong)

end Rows
end Go.Proofs.YtpjpdeecpobmlaaFmt
