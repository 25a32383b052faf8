/-
  NARROWER THAN 'FOR EVERY INPUT', by the rows' own cells (each row's printed sentence says how): FnValidateAliasIdempotent: laid · FnExternalsExactSetIsStarFreePaths: laid · FnExternalsSingleWildcardPatterns: laid · FnValidateAliasKeepsExactlyValidNames: laid.
  DERIVED. THE GIVEN ROWS OF THIS SEAT. 4 by the template 'for every input the law returns true; each argument reads behind the call as it read before'; 0 by the template 'total and deterministic' (their statements: YtkdkjcljdagakaaGreatFmtTotals.lean).
  GIVEN WITH THE SEED: the statements are not yours to turn. If you find one false, say at which input.
  Laid BY PROGRAM, IN A SANDBOX (cutbox-rows.mjs): the forced cells as the released guide's own fill.sh prints them over the translation 44a231464198542c… (all of the seat's roots in one cut). By AI agents, Wed Nov 11 2026. No macro, syntax, notation, axiom, sorry.
-/
import Derived.Test.YtkdkjcljdagakaaGreatFmtChecked
import GoSem.PinnedTables
import GoSem.Claim
import GoSem.ClaimJoined
import GoSem.ClaimMapViews
import Derived.JoinedTies
import Derived.KernelRfl
namespace Go.Proofs.YtkdkjcljdagakaaGreatFmt
/- THE CELL 'sum', in the pinned program and in every row, IS THE sha256 OF THE DUMP (.gsa) THAT YtkdkjcljdagakaaGreatFmtProg.lean LOADS. Nothing in Lean hashes anything: it is a label: what it is worth is what the hold of that sum in a sandbox is worth. -/
noncomputable def Tryz.pinned : Pinned := { name := "ytkdkjcljdagakaagreatfmt", sum := "44a231464198542cda831bce4bacea52ea45b6fb1e7989bdad918c8fdfc93c79", checked := Tryz.checked }
namespace Rows
def none {H : Type} : Left H := { results := [], args := [] }

/- WHAT THE LISTED PACKAGE-LEVEL VARIABLES READ AS WHEN THE CALL BEGINS. Each datum BY PROGRAM (the guide's laid-datum.mjs) off the statement by which the dump's own 'gosem.cut.vars' lays the variable. In a bare row this is a premise. The card (YtkdkjcljdagakaaGreatFmtCards.lean) ties it to the program's text. -/
def laid_unicode_utf8_acceptRanges {H : Type} : DataW H := .agg [.agg [.lit (.int .u8 128), .lit (.int .u8 191)], .agg [.lit (.int .u8 160), .lit (.int .u8 191)], .agg [.lit (.int .u8 128), .lit (.int .u8 159)], .agg [.lit (.int .u8 144), .lit (.int .u8 191)], .agg [.lit (.int .u8 128), .lit (.int .u8 143)], .agg [.lit (.int .u8 0), .lit (.int .u8 0)], .agg [.lit (.int .u8 0), .lit (.int .u8 0)], .agg [.lit (.int .u8 0), .lit (.int .u8 0)], .agg [.lit (.int .u8 0), .lit (.int .u8 0)], .agg [.lit (.int .u8 0), .lit (.int .u8 0)], .agg [.lit (.int .u8 0), .lit (.int .u8 0)], .agg [.lit (.int .u8 0), .lit (.int .u8 0)], .agg [.lit (.int .u8 0), .lit (.int .u8 0)], .agg [.lit (.int .u8 0), .lit (.int .u8 0)], .agg [.lit (.int .u8 0), .lit (.int .u8 0)], .agg [.lit (.int .u8 0), .lit (.int .u8 0)]]
/-- One of Go's own tables, pinned by name: the form's constant. -/
def laid_unicode_CaseRanges : DataW Unit := Go.Pinned.caseRanges
/-- One of Go's own tables, pinned by name: the form's constant. -/
def laid_unicode_utf8_first : DataW Unit := Go.Pinned.utf8First

/-- 'n011_243.FnValidateAliasIdempotent': WHATEVER THE INPUT: true; the input reads as it did. -/
def fnValidateAliasIdempotentSpec : ChangeSpec := { name := "fnValidateAliasIdempotent", fn := fun _ => fun
  | [d1, d2] => { results := [.lit (.bool true)], args := [d1, d2] }
  | _ => none }
def fnValidateAliasIdempotentRow : OpenClaim := { program := "ytkdkjcljdagakaagreatfmt", sum := "44a231464198542cda831bce4bacea52ea45b6fb1e7989bdad918c8fdfc93c79", func := "github.com/evanw/esbuild/n011_243.FnValidateAliasIdempotent", spec := "fnValidateAliasIdempotent", stops := ["fmt.Sprintf"], inPlace := ["(*internal/sync.Mutex).Lock", "internal/race.Disable", "sync/atomic.CompareAndSwapInt32", "internal/race.Enable", "internal/race.Acquire", "(*internal/sync.Mutex).lockSlow", "internal/sync.runtime_canSpin", "internal/sync.runtime_doSpin", "internal/sync.throw", "internal/sync.runtime_nanotime", "internal/sync.runtime_SemacquireMutex", "sync/atomic.AddInt32", "(*internal/sync.Mutex).Unlock", "internal/race.ReleaseMerge", "(*internal/sync.Mutex).unlockSlow", "internal/sync.fatal", "internal/sync.runtime_Semrelease", "internal/abi.NoEscape", "internal/bytealg.MakeNoZero", "fmt.Sprintf"], unfollowed := true, recurses := true, named := ["unicode/utf8.first", "unicode/utf8.acceptRanges", "unicode.CaseRanges"], apart := false, laid := [("unicode/utf8.acceptRanges", laid_unicode_utf8_acceptRanges), ("unicode.CaseRanges", laid_unicode_CaseRanges), ("unicode/utf8.first", laid_unicode_utf8_first)] }
/-- NO THEOREM (fmt's text is open here; it may be false): for the released tool's asking of the row's closed facts alone. THE STATEMENT IS 'FnValidateAliasIdempotentToldSaid' (YtkdkjcljdagakaaGreatFmtCards.lean). -/
def FnValidateAliasIdempotentFormAsk : Prop := fnValidateAliasIdempotentRow.holds Tryz.pinned (OpenSpec.ofChange fnValidateAliasIdempotentSpec)

/-- ITS FALSE NEIGHBOUR: 'it returns false'. Refute it at one input. -/
def fnValidateAliasIdempotentWrong : ChangeSpec := { name := "fnValidateAliasIdempotent", fn := fun _ => fun
  | [d1, d2] => { results := [.lit (.bool false)], args := [d1, d2] }
  | _ => none }
def FnValidateAliasIdempotentWrongFormAsk : Prop := fnValidateAliasIdempotentRow.holds Tryz.pinned (OpenSpec.ofChange fnValidateAliasIdempotentWrong)

/-- 'n011_243.FnExternalsExactSetIsStarFreePaths': WHATEVER THE INPUT: true; the input reads as it did. -/
def fnExternalsExactSetIsStarFreePathsSpec : ChangeSpec := { name := "fnExternalsExactSetIsStarFreePaths", fn := fun _ => fun
  | [d] => { results := [.lit (.bool true)], args := [d] }
  | _ => none }
def fnExternalsExactSetIsStarFreePathsRow : OpenClaim := { program := "ytkdkjcljdagakaagreatfmt", sum := "44a231464198542cda831bce4bacea52ea45b6fb1e7989bdad918c8fdfc93c79", func := "github.com/evanw/esbuild/n011_243.FnExternalsExactSetIsStarFreePaths", spec := "fnExternalsExactSetIsStarFreePaths", stops := ["fmt.Sprintf"], inPlace := ["(*internal/sync.Mutex).Lock", "internal/race.Disable", "sync/atomic.CompareAndSwapInt32", "internal/race.Enable", "internal/race.Acquire", "(*internal/sync.Mutex).lockSlow", "internal/sync.runtime_canSpin", "internal/sync.runtime_doSpin", "internal/sync.throw", "internal/sync.runtime_nanotime", "internal/sync.runtime_SemacquireMutex", "sync/atomic.AddInt32", "(*internal/sync.Mutex).Unlock", "internal/race.ReleaseMerge", "(*internal/sync.Mutex).unlockSlow", "internal/sync.fatal", "internal/sync.runtime_Semrelease", "internal/abi.NoEscape", "internal/bytealg.MakeNoZero", "internal/bytealg.IndexByteString", "fmt.Sprintf"], unfollowed := true, recurses := true, named := ["unicode/utf8.first", "unicode/utf8.acceptRanges", "unicode.CaseRanges"], apart := false, laid := [("unicode/utf8.acceptRanges", laid_unicode_utf8_acceptRanges), ("unicode.CaseRanges", laid_unicode_CaseRanges), ("unicode/utf8.first", laid_unicode_utf8_first)] }
/-- NO THEOREM (fmt's text is open here; it may be false): for the released tool's asking of the row's closed facts alone. THE STATEMENT IS 'FnExternalsExactSetIsStarFreePathsToldSaid' (YtkdkjcljdagakaaGreatFmtCards.lean). -/
def FnExternalsExactSetIsStarFreePathsFormAsk : Prop := fnExternalsExactSetIsStarFreePathsRow.holds Tryz.pinned (OpenSpec.ofChange fnExternalsExactSetIsStarFreePathsSpec)

/-- ITS FALSE NEIGHBOUR: 'it returns false'. Refute it at one input. -/
def fnExternalsExactSetIsStarFreePathsWrong : ChangeSpec := { name := "fnExternalsExactSetIsStarFreePaths", fn := fun _ => fun
  | [d] => { results := [.lit (.bool false)], args := [d] }
  | _ => none }
def FnExternalsExactSetIsStarFreePathsWrongFormAsk : Prop := fnExternalsExactSetIsStarFreePathsRow.holds Tryz.pinned (OpenSpec.ofChange fnExternalsExactSetIsStarFreePathsWrong)

/-- 'n011_243.FnExternalsSingleWildcardPatterns': WHATEVER THE INPUT: true; the input reads as it did. -/
def fnExternalsSingleWildcardPatternsSpec : ChangeSpec := { name := "fnExternalsSingleWildcardPatterns", fn := fun _ => fun
  | [d] => { results := [.lit (.bool true)], args := [d] }
  | _ => none }
def fnExternalsSingleWildcardPatternsRow : OpenClaim := { program := "ytkdkjcljdagakaagreatfmt", sum := "44a231464198542cda831bce4bacea52ea45b6fb1e7989bdad918c8fdfc93c79", func := "github.com/evanw/esbuild/n011_243.FnExternalsSingleWildcardPatterns", spec := "fnExternalsSingleWildcardPatterns", stops := ["fmt.Sprintf"], inPlace := ["(*internal/sync.Mutex).Lock", "internal/race.Disable", "sync/atomic.CompareAndSwapInt32", "internal/race.Enable", "internal/race.Acquire", "(*internal/sync.Mutex).lockSlow", "internal/sync.runtime_canSpin", "internal/sync.runtime_doSpin", "internal/sync.throw", "internal/sync.runtime_nanotime", "internal/sync.runtime_SemacquireMutex", "sync/atomic.AddInt32", "(*internal/sync.Mutex).Unlock", "internal/race.ReleaseMerge", "(*internal/sync.Mutex).unlockSlow", "internal/sync.fatal", "internal/sync.runtime_Semrelease", "internal/abi.NoEscape", "internal/bytealg.MakeNoZero", "internal/bytealg.IndexByteString", "fmt.Sprintf"], unfollowed := true, recurses := true, named := ["unicode/utf8.first", "unicode/utf8.acceptRanges", "unicode.CaseRanges"], apart := false, laid := [("unicode/utf8.acceptRanges", laid_unicode_utf8_acceptRanges), ("unicode.CaseRanges", laid_unicode_CaseRanges), ("unicode/utf8.first", laid_unicode_utf8_first)] }
/-- NO THEOREM (fmt's text is open here; it may be false): for the released tool's asking of the row's closed facts alone. THE STATEMENT IS 'FnExternalsSingleWildcardPatternsToldSaid' (YtkdkjcljdagakaaGreatFmtCards.lean). -/
def FnExternalsSingleWildcardPatternsFormAsk : Prop := fnExternalsSingleWildcardPatternsRow.holds Tryz.pinned (OpenSpec.ofChange fnExternalsSingleWildcardPatternsSpec)

/-- ITS FALSE NEIGHBOUR: 'it returns false'. Refute it at one input. -/
def fnExternalsSingleWildcardPatternsWrong : ChangeSpec := { name := "fnExternalsSingleWildcardPatterns", fn := fun _ => fun
  | [d] => { results := [.lit (.bool false)], args := [d] }
  | _ => none }
def FnExternalsSingleWildcardPatternsWrongFormAsk : Prop := fnExternalsSingleWildcardPatternsRow.holds Tryz.pinned (OpenSpec.ofChange fnExternalsSingleWildcardPatternsWrong)

/-- 'n011_243.FnValidateAliasKeepsExactlyValidNames': WHATEVER THE INPUT: true; the input reads as it did. -/
def fnValidateAliasKeepsExactlyValidNamesSpec : ChangeSpec := { name := "fnValidateAliasKeepsExactlyValidNames", fn := fun _ => fun
  | [d1, d2] => { results := [.lit (.bool true)], args := [d1, d2] }
  | _ => none }
def fnValidateAliasKeepsExactlyValidNamesRow : OpenClaim := { program := "ytkdkjcljdagakaagreatfmt", sum := "44a231464198542cda831bce4bacea52ea45b6fb1e7989bdad918c8fdfc93c79", func := "github.com/evanw/esbuild/n011_243.FnValidateAliasKeepsExactlyValidNames", spec := "fnValidateAliasKeepsExactlyValidNames", stops := ["fmt.Sprintf"], inPlace := ["(*internal/sync.Mutex).Lock", "internal/race.Disable", "sync/atomic.CompareAndSwapInt32", "internal/race.Enable", "internal/race.Acquire", "(*internal/sync.Mutex).lockSlow", "internal/sync.runtime_canSpin", "internal/sync.runtime_doSpin", "internal/sync.throw", "internal/sync.runtime_nanotime", "internal/sync.runtime_SemacquireMutex", "sync/atomic.AddInt32", "(*internal/sync.Mutex).Unlock", "internal/race.ReleaseMerge", "(*internal/sync.Mutex).unlockSlow", "internal/sync.fatal", "internal/sync.runtime_Semrelease", "internal/abi.NoEscape", "internal/bytealg.MakeNoZero", "fmt.Sprintf"], unfollowed := true, recurses := true, named := ["unicode/utf8.first", "unicode/utf8.acceptRanges", "unicode.CaseRanges"], apart := false, laid := [("unicode/utf8.acceptRanges", laid_unicode_utf8_acceptRanges), ("unicode.CaseRanges", laid_unicode_CaseRanges), ("unicode/utf8.first", laid_unicode_utf8_first)] }
/-- NO THEOREM (fmt's text is open here; it may be false): for the released tool's asking of the row's closed facts alone. THE STATEMENT IS 'FnValidateAliasKeepsExactlyValidNamesToldSaid' (YtkdkjcljdagakaaGreatFmtCards.lean). -/
def FnValidateAliasKeepsExactlyValidNamesFormAsk : Prop := fnValidateAliasKeepsExactlyValidNamesRow.holds Tryz.pinned (OpenSpec.ofChange fnValidateAliasKeepsExactlyValidNamesSpec)

/-- ITS FALSE NEIGHBOUR: 'it returns false'. Refute it at one input. -/
def fnValidateAliasKeepsExactlyValidNamesWrong : ChangeSpec := { name := "fnValidateAliasKeepsExactlyValidNames", fn := fun _ => fun
  | [d1, d2] => { results := [.lit (.bool false)], args := [d1, d2] }
  | _ => none }
def FnValidateAliasKeepsExactlyValidNamesWrongFormAsk : Prop := fnValidateAliasKeepsExactlyValidNamesRow.holds Tryz.pinned (OpenSpec.ofChange fnValidateAliasKeepsExactlyValidNamesWrong)

end Rows
end Go.Proofs.YtkdkjcljdagakaaGreatFmt
