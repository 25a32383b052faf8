/-
  NARROWER THAN 'FOR EVERY INPUT', by the rows' own cells (each row's printed sentence says how): FnMangleFontFamilyIsIdempotent: maps, laid · FnMangleFontFamilyMatchesCommaGroupModel: maps, laid · FnMangleFamilyStepKeepsPrefixAndProgresses: maps, laid.
  DERIVED. THE GIVEN ROWS OF THIS SEAT. 3 by the template 'for every input the law returns true; each argument reads behind the call as it read before'; 0 by the template 'total and deterministic' (their statements: YtjinajfejbpicaaDoorTotals.lean).
  GIVEN WITH THE SEED: the statements are not yours to turn. If you find one false, say at which input.
  Laid BY PROGRAM, IN A SANDBOX (cutbox-rows.mjs): the forced cells as the released guide's own fill.sh prints them over the translation e376b8e7a5e1b03c… (all of the seat's roots in one cut). By AI agents, Wed Nov 11 2026. No macro, syntax, notation, axiom, sorry.
-/
import Derived.Test.YtjinajfejbpicaaDoorChecked
import GoSem.PinnedTables
import GoSem.Claim
import GoSem.ClaimJoined
import GoSem.ClaimMapViews
import Derived.JoinedTies
import Derived.KernelRfl
namespace Go.Proofs.YtjinajfejbpicaaDoor
/- THE CELL 'sum', in the pinned program and in every row, IS THE sha256 OF THE DUMP (.gsa) THAT YtjinajfejbpicaaDoorProg.lean LOADS. Nothing in Lean hashes anything: it is a label: what it is worth is what the hold of that sum in a sandbox is worth. -/
noncomputable def Tryd.pinned : Pinned := { name := "ytjinajfejbpicaadoor", sum := "e376b8e7a5e1b03c8bf30c4370f82e05a5cd74d1f8408dcaeb8714f1b67873dc", checked := Tryd.checked }
namespace Rows
def none {H : Type} : Left H := { results := [], args := [] }

/- WHAT THE LISTED PACKAGE-LEVEL VARIABLES READ AS WHEN THE CALL BEGINS. Each datum BY PROGRAM (the guide's laid-datum.mjs) off the statement by which the dump's own 'gosem.cut.vars' lays the variable. In a bare row this is a premise. The card (YtjinajfejbpicaaDoorCards.lean) ties it to the program's text. -/
def laid_unicode_utf8_acceptRanges {H : Type} : DataW H := .agg [.agg [.lit (.int .u8 128), .lit (.int .u8 191)], .agg [.lit (.int .u8 160), .lit (.int .u8 191)], .agg [.lit (.int .u8 128), .lit (.int .u8 159)], .agg [.lit (.int .u8 144), .lit (.int .u8 191)], .agg [.lit (.int .u8 128), .lit (.int .u8 143)], .agg [.lit (.int .u8 0), .lit (.int .u8 0)], .agg [.lit (.int .u8 0), .lit (.int .u8 0)], .agg [.lit (.int .u8 0), .lit (.int .u8 0)], .agg [.lit (.int .u8 0), .lit (.int .u8 0)], .agg [.lit (.int .u8 0), .lit (.int .u8 0)], .agg [.lit (.int .u8 0), .lit (.int .u8 0)], .agg [.lit (.int .u8 0), .lit (.int .u8 0)], .agg [.lit (.int .u8 0), .lit (.int .u8 0)], .agg [.lit (.int .u8 0), .lit (.int .u8 0)], .agg [.lit (.int .u8 0), .lit (.int .u8 0)], .agg [.lit (.int .u8 0), .lit (.int .u8 0)]]
def laid_github_com_evanw_esbuild_internal_css_parser_cssWideAndReservedKeywords {H : Type} : DataW H := .map [(.string [100, 101, 102, 97, 117, 108, 116], .lit (.bool true)), (.string [105, 110, 104, 101, 114, 105, 116], .lit (.bool true)), (.string [105, 110, 105, 116, 105, 97, 108], .lit (.bool true)), (.string [114, 101, 118, 101, 114, 116], .lit (.bool true)), (.string [114, 101, 118, 101, 114, 116, 45, 108, 97, 121, 101, 114], .lit (.bool true)), (.string [117, 110, 115, 101, 116], .lit (.bool true))]
def laid_github_com_evanw_esbuild_internal_css_parser_genericFamilyNames {H : Type} : DataW H := .map [(.string [99, 117, 114, 115, 105, 118, 101], .lit (.bool true)), (.string [101, 109, 111, 106, 105], .lit (.bool true)), (.string [102, 97, 110, 103, 115, 111, 110, 103], .lit (.bool true)), (.string [102, 97, 110, 116, 97, 115, 121], .lit (.bool true)), (.string [109, 97, 116, 104], .lit (.bool true)), (.string [109, 111, 110, 111, 115, 112, 97, 99, 101], .lit (.bool true)), (.string [115, 97, 110, 115, 45, 115, 101, 114, 105, 102], .lit (.bool true)), (.string [115, 101, 114, 105, 102], .lit (.bool true)), (.string [115, 121, 115, 116, 101, 109, 45, 117, 105], .lit (.bool true)), (.string [117, 105, 45, 109, 111, 110, 111, 115, 112, 97, 99, 101], .lit (.bool true)), (.string [117, 105, 45, 114, 111, 117, 110, 100, 101, 100], .lit (.bool true)), (.string [117, 105, 45, 115, 97, 110, 115, 45, 115, 101, 114, 105, 102], .lit (.bool true)), (.string [117, 105, 45, 115, 101, 114, 105, 102], .lit (.bool true))]
/-- One of Go's own tables, pinned by name: the form's constant. -/
def laid_unicode_CaseRanges : DataW Unit := Go.Pinned.caseRanges
/-- One of Go's own tables, pinned by name: the form's constant. -/
def laid_unicode_utf8_first : DataW Unit := Go.Pinned.utf8First

/-- 'n011_54.FnMangleFontFamilyIsIdempotent': WHATEVER THE INPUT: true; the input reads as it did. -/
def fnMangleFontFamilyIsIdempotentSpec : ChangeSpec := { name := "fnMangleFontFamilyIsIdempotent", vars := ["github.com/evanw/esbuild/internal/css_parser.genericFamilyNames", "github.com/evanw/esbuild/internal/css_parser.cssWideAndReservedKeywords"], fn := fun _ => fun
  | [d1, d2, d3, g1, g2] => { results := [.lit (.bool true)], args := [d1, d2, d3], vars := [g1, g2] }
  | _ => none }
def fnMangleFontFamilyIsIdempotentRow : OpenClaim := { program := "ytjinajfejbpicaadoor", sum := "e376b8e7a5e1b03c8bf30c4370f82e05a5cd74d1f8408dcaeb8714f1b67873dc", func := "github.com/evanw/esbuild/n011_54.FnMangleFontFamilyIsIdempotent", spec := "fnMangleFontFamilyIsIdempotent", inPlace := ["internal/abi.NoEscape", "internal/bytealg.MakeNoZero"], unfollowed := true, recurses := true, named := ["github.com/evanw/esbuild/internal/css_parser.genericFamilyNames", "github.com/evanw/esbuild/internal/css_parser.cssWideAndReservedKeywords", "unicode/utf8.first", "unicode/utf8.acceptRanges", "unicode.CaseRanges"], maps := true, plainKeys := false, apart := false, laid := [("unicode/utf8.acceptRanges", laid_unicode_utf8_acceptRanges), ("github.com/evanw/esbuild/internal/css_parser.cssWideAndReservedKeywords", laid_github_com_evanw_esbuild_internal_css_parser_cssWideAndReservedKeywords), ("github.com/evanw/esbuild/internal/css_parser.genericFamilyNames", laid_github_com_evanw_esbuild_internal_css_parser_genericFamilyNames), ("unicode.CaseRanges", laid_unicode_CaseRanges), ("unicode/utf8.first", laid_unicode_utf8_first)] }
def FnMangleFontFamilyIsIdempotentSaid : Prop := fnMangleFontFamilyIsIdempotentRow.holds Tryd.pinned (OpenSpec.ofChange fnMangleFontFamilyIsIdempotentSpec)

/-- ITS FALSE NEIGHBOUR: 'it returns false'. Refute it at one input. -/
def fnMangleFontFamilyIsIdempotentWrong : ChangeSpec := { name := "fnMangleFontFamilyIsIdempotent", vars := ["github.com/evanw/esbuild/internal/css_parser.genericFamilyNames", "github.com/evanw/esbuild/internal/css_parser.cssWideAndReservedKeywords"], fn := fun _ => fun
  | [d1, d2, d3, g1, g2] => { results := [.lit (.bool false)], args := [d1, d2, d3], vars := [g1, g2] }
  | _ => none }
def FnMangleFontFamilyIsIdempotentWrongFalsely : Prop := fnMangleFontFamilyIsIdempotentRow.holds Tryd.pinned (OpenSpec.ofChange fnMangleFontFamilyIsIdempotentWrong)

/-- 'n011_54.FnMangleFontFamilyMatchesCommaGroupModel': WHATEVER THE INPUT: true; the input reads as it did. -/
def fnMangleFontFamilyMatchesCommaGroupModelSpec : ChangeSpec := { name := "fnMangleFontFamilyMatchesCommaGroupModel", vars := ["github.com/evanw/esbuild/internal/css_parser.genericFamilyNames", "github.com/evanw/esbuild/internal/css_parser.cssWideAndReservedKeywords"], fn := fun _ => fun
  | [d1, d2, d3, g1, g2] => { results := [.lit (.bool true)], args := [d1, d2, d3], vars := [g1, g2] }
  | _ => none }
def fnMangleFontFamilyMatchesCommaGroupModelRow : OpenClaim := { program := "ytjinajfejbpicaadoor", sum := "e376b8e7a5e1b03c8bf30c4370f82e05a5cd74d1f8408dcaeb8714f1b67873dc", func := "github.com/evanw/esbuild/n011_54.FnMangleFontFamilyMatchesCommaGroupModel", spec := "fnMangleFontFamilyMatchesCommaGroupModel", inPlace := ["internal/abi.NoEscape", "internal/bytealg.MakeNoZero"], unfollowed := true, recurses := true, named := ["github.com/evanw/esbuild/internal/css_parser.genericFamilyNames", "github.com/evanw/esbuild/internal/css_parser.cssWideAndReservedKeywords", "unicode/utf8.first", "unicode/utf8.acceptRanges", "unicode.CaseRanges"], maps := true, plainKeys := false, apart := false, laid := [("unicode/utf8.acceptRanges", laid_unicode_utf8_acceptRanges), ("github.com/evanw/esbuild/internal/css_parser.cssWideAndReservedKeywords", laid_github_com_evanw_esbuild_internal_css_parser_cssWideAndReservedKeywords), ("github.com/evanw/esbuild/internal/css_parser.genericFamilyNames", laid_github_com_evanw_esbuild_internal_css_parser_genericFamilyNames), ("unicode.CaseRanges", laid_unicode_CaseRanges), ("unicode/utf8.first", laid_unicode_utf8_first)] }
def FnMangleFontFamilyMatchesCommaGroupModelSaid : Prop := fnMangleFontFamilyMatchesCommaGroupModelRow.holds Tryd.pinned (OpenSpec.ofChange fnMangleFontFamilyMatchesCommaGroupModelSpec)

/-- ITS FALSE NEIGHBOUR: 'it returns false'. Refute it at one input. -/
def fnMangleFontFamilyMatchesCommaGroupModelWrong : ChangeSpec := { name := "fnMangleFontFamilyMatchesCommaGroupModel", vars := ["github.com/evanw/esbuild/internal/css_parser.genericFamilyNames", "github.com/evanw/esbuild/internal/css_parser.cssWideAndReservedKeywords"], fn := fun _ => fun
  | [d1, d2, d3, g1, g2] => { results := [.lit (.bool false)], args := [d1, d2, d3], vars := [g1, g2] }
  | _ => none }
def FnMangleFontFamilyMatchesCommaGroupModelWrongFalsely : Prop := fnMangleFontFamilyMatchesCommaGroupModelRow.holds Tryd.pinned (OpenSpec.ofChange fnMangleFontFamilyMatchesCommaGroupModelWrong)

/-- 'n011_54.FnMangleFamilyStepKeepsPrefixAndProgresses': WHATEVER THE INPUT: true; the input reads as it did. -/
def fnMangleFamilyStepKeepsPrefixAndProgressesSpec : ChangeSpec := { name := "fnMangleFamilyStepKeepsPrefixAndProgresses", vars := ["github.com/evanw/esbuild/internal/css_parser.genericFamilyNames", "github.com/evanw/esbuild/internal/css_parser.cssWideAndReservedKeywords"], fn := fun _ => fun
  | [d1, d2, d3, d4, g1, g2] => { results := [.lit (.bool true)], args := [d1, d2, d3, d4], vars := [g1, g2] }
  | _ => none }
def fnMangleFamilyStepKeepsPrefixAndProgressesRow : OpenClaim := { program := "ytjinajfejbpicaadoor", sum := "e376b8e7a5e1b03c8bf30c4370f82e05a5cd74d1f8408dcaeb8714f1b67873dc", func := "github.com/evanw/esbuild/n011_54.FnMangleFamilyStepKeepsPrefixAndProgresses", spec := "fnMangleFamilyStepKeepsPrefixAndProgresses", inPlace := ["internal/abi.NoEscape", "internal/bytealg.MakeNoZero"], unfollowed := true, recurses := true, named := ["github.com/evanw/esbuild/internal/css_parser.genericFamilyNames", "github.com/evanw/esbuild/internal/css_parser.cssWideAndReservedKeywords", "unicode/utf8.first", "unicode/utf8.acceptRanges", "unicode.CaseRanges"], maps := true, plainKeys := false, apart := false, laid := [("unicode/utf8.acceptRanges", laid_unicode_utf8_acceptRanges), ("github.com/evanw/esbuild/internal/css_parser.cssWideAndReservedKeywords", laid_github_com_evanw_esbuild_internal_css_parser_cssWideAndReservedKeywords), ("github.com/evanw/esbuild/internal/css_parser.genericFamilyNames", laid_github_com_evanw_esbuild_internal_css_parser_genericFamilyNames), ("unicode.CaseRanges", laid_unicode_CaseRanges), ("unicode/utf8.first", laid_unicode_utf8_first)] }
def FnMangleFamilyStepKeepsPrefixAndProgressesSaid : Prop := fnMangleFamilyStepKeepsPrefixAndProgressesRow.holds Tryd.pinned (OpenSpec.ofChange fnMangleFamilyStepKeepsPrefixAndProgressesSpec)

/-- ITS FALSE NEIGHBOUR: 'it returns false'. Refute it at one input. -/
def fnMangleFamilyStepKeepsPrefixAndProgressesWrong : ChangeSpec := { name := "fnMangleFamilyStepKeepsPrefixAndProgresses", vars := ["github.com/evanw/esbuild/internal/css_parser.genericFamilyNames", "github.com/evanw/esbuild/internal/css_parser.cssWideAndReservedKeywords"], fn := fun _ => fun
  | [d1, d2, d3, d4, g1, g2] => { results := [.lit (.bool false)], args := [d1, d2, d3, d4], vars := [g1, g2] }
  | _ => none }
def FnMangleFamilyStepKeepsPrefixAndProgressesWrongFalsely : Prop := fnMangleFamilyStepKeepsPrefixAndProgressesRow.holds Tryd.pinned (OpenSpec.ofChange fnMangleFamilyStepKeepsPrefixAndProgressesWrong)

/- THE SECOND FORM. 'bulk': how many values and letters a reading holds, each counted each time it is reached (what is shared counts as often as it is met; a slice's spare places count too). A statement '..UptoSaid' is the law's where the arguments, and the package variables that the reading takes, are together of bulk at most 1048576: NARROWER than '..Said'. Prove '..Said' where nothing that the law and all that it calls make is longer than what came in: it says more and counts as full. Else prove '..UptoSaid'. A law counts once. -/
mutual
def uptoBulk {H : Type} : DataW H → Nat
  | .lit (.string bytes) => bytes.length + 1
  | .lit _ => 1
  | .nil => 1
  | .ptr d => uptoBulk d + 1
  | .slice elems spare => uptoBulkAll elems + uptoBulkAll spare + 1
  | .agg parts => uptoBulkAll parts + 1
  | .iface _ d => uptoBulk d + 1
  | .map entries => uptoBulkEntries entries + 1
  | .held _ => 1
def uptoBulkAll {H : Type} : List (DataW H) → Nat
  | [] => 0
  | d :: r => uptoBulk d + uptoBulkAll r
def uptoBulkEntries {H : Type} : List (Lit × DataW H) → Nat
  | [] => 0
  | x :: r => uptoBulkEntry x + uptoBulkEntries r
def uptoBulkEntry {H : Type} : Lit × DataW H → Nat
  | (.string bytes, d) => bytes.length + uptoBulk d + 1
  | (_, d) => uptoBulk d + 1
 end
def uptoSmall : (H : Type) → List (DataW H) → Bool := fun _ ds => decide (uptoBulkAll ds ≤ 1048576)
def OpenSpec.upto (s : _root_.Go.ChangeSpec) : _root_.Go.OpenSpec := { _root_.Go.OpenSpec.ofChange s with cond := some uptoSmall }

/-- 'n011_54.FnMangleFontFamilyIsIdempotent', WHERE WHAT IT READS IS OF BULK AT MOST 1048576: true; the input reads as it did. -/
def fnMangleFontFamilyIsIdempotentUptoRow : OpenClaim := { program := "ytjinajfejbpicaadoor", sum := "e376b8e7a5e1b03c8bf30c4370f82e05a5cd74d1f8408dcaeb8714f1b67873dc", func := "github.com/evanw/esbuild/n011_54.FnMangleFontFamilyIsIdempotent", spec := "fnMangleFontFamilyIsIdempotent", inPlace := ["internal/abi.NoEscape", "internal/bytealg.MakeNoZero"], unfollowed := true, recurses := true, named := ["github.com/evanw/esbuild/internal/css_parser.genericFamilyNames", "github.com/evanw/esbuild/internal/css_parser.cssWideAndReservedKeywords", "unicode/utf8.first", "unicode/utf8.acceptRanges", "unicode.CaseRanges"], maps := true, plainKeys := false, apart := false, laid := [("unicode/utf8.acceptRanges", laid_unicode_utf8_acceptRanges), ("github.com/evanw/esbuild/internal/css_parser.cssWideAndReservedKeywords", laid_github_com_evanw_esbuild_internal_css_parser_cssWideAndReservedKeywords), ("github.com/evanw/esbuild/internal/css_parser.genericFamilyNames", laid_github_com_evanw_esbuild_internal_css_parser_genericFamilyNames), ("unicode.CaseRanges", laid_unicode_CaseRanges), ("unicode/utf8.first", laid_unicode_utf8_first)], narrowed := true }
def FnMangleFontFamilyIsIdempotentUptoSaid : Prop := fnMangleFontFamilyIsIdempotentUptoRow.holds Tryd.pinned (OpenSpec.upto fnMangleFontFamilyIsIdempotentSpec)

/-- 'n011_54.FnMangleFontFamilyMatchesCommaGroupModel', WHERE WHAT IT READS IS OF BULK AT MOST 1048576: true; the input reads as it did. -/
def fnMangleFontFamilyMatchesCommaGroupModelUptoRow : OpenClaim := { program := "ytjinajfejbpicaadoor", sum := "e376b8e7a5e1b03c8bf30c4370f82e05a5cd74d1f8408dcaeb8714f1b67873dc", func := "github.com/evanw/esbuild/n011_54.FnMangleFontFamilyMatchesCommaGroupModel", spec := "fnMangleFontFamilyMatchesCommaGroupModel", inPlace := ["internal/abi.NoEscape", "internal/bytealg.MakeNoZero"], unfollowed := true, recurses := true, named := ["github.com/evanw/esbuild/internal/css_parser.genericFamilyNames", "github.com/evanw/esbuild/internal/css_parser.cssWideAndReservedKeywords", "unicode/utf8.first", "unicode/utf8.acceptRanges", "unicode.CaseRanges"], maps := true, plainKeys := false, apart := false, laid := [("unicode/utf8.acceptRanges", laid_unicode_utf8_acceptRanges), ("github.com/evanw/esbuild/internal/css_parser.cssWideAndReservedKeywords", laid_github_com_evanw_esbuild_internal_css_parser_cssWideAndReservedKeywords), ("github.com/evanw/esbuild/internal/css_parser.genericFamilyNames", laid_github_com_evanw_esbuild_internal_css_parser_genericFamilyNames), ("unicode.CaseRanges", laid_unicode_CaseRanges), ("unicode/utf8.first", laid_unicode_utf8_first)], narrowed := true }
def FnMangleFontFamilyMatchesCommaGroupModelUptoSaid : Prop := fnMangleFontFamilyMatchesCommaGroupModelUptoRow.holds Tryd.pinned (OpenSpec.upto fnMangleFontFamilyMatchesCommaGroupModelSpec)

/-- 'n011_54.FnMangleFamilyStepKeepsPrefixAndProgresses', WHERE WHAT IT READS IS OF BULK AT MOST 1048576: true; the input reads as it did. -/
def fnMangleFamilyStepKeepsPrefixAndProgressesUptoRow : OpenClaim := { program := "ytjinajfejbpicaadoor", sum := "e376b8e7a5e1b03c8bf30c4370f82e05a5cd74d1f8408dcaeb8714f1b67873dc", func := "github.com/evanw/esbuild/n011_54.FnMangleFamilyStepKeepsPrefixAndProgresses", spec := "fnMangleFamilyStepKeepsPrefixAndProgresses", inPlace := ["internal/abi.NoEscape", "internal/bytealg.MakeNoZero"], unfollowed := true, recurses := true, named := ["github.com/evanw/esbuild/internal/css_parser.genericFamilyNames", "github.com/evanw/esbuild/internal/css_parser.cssWideAndReservedKeywords", "unicode/utf8.first", "unicode/utf8.acceptRanges", "unicode.CaseRanges"], maps := true, plainKeys := false, apart := false, laid := [("unicode/utf8.acceptRanges", laid_unicode_utf8_acceptRanges), ("github.com/evanw/esbuild/internal/css_parser.cssWideAndReservedKeywords", laid_github_com_evanw_esbuild_internal_css_parser_cssWideAndReservedKeywords), ("github.com/evanw/esbuild/internal/css_parser.genericFamilyNames", laid_github_com_evanw_esbuild_internal_css_parser_genericFamilyNames), ("unicode.CaseRanges", laid_unicode_CaseRanges), ("unicode/utf8.first", laid_unicode_utf8_first)], narrowed := true }
def FnMangleFamilyStepKeepsPrefixAndProgressesUptoSaid : Prop := fnMangleFamilyStepKeepsPrefixAndProgressesUptoRow.holds Tryd.pinned (OpenSpec.upto fnMangleFamilyStepKeepsPrefixAndProgressesSpec)

end Rows
end Go.Proofs.YtjinajfejbpicaaDoor
