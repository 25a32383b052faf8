/-
  No cell of these rows narrows 'for every input' (looked for: loops, veiled, ifaces, maps, wideKeys, modest, calm, conditions, laid).
  DERIVED. THE GIVEN ROWS OF THIS SEAT. 4 by the template 'for every input the law returns true; each argument reads behind the call as it read before'; 0 by the template 'total and deterministic' (their statements: YtolpgogmbebmcaaTotals.lean).
  GIVEN WITH THE SEED: the statements are not yours to turn. If you find one false, say at which input.
  Laid BY PROGRAM, IN A SANDBOX (cutbox-rows.mjs): the forced cells as the released guide's own fill.sh prints them over the translation 4c0992f1314a5353… (all of the seat's roots in one cut). By AI agents, Wed Nov 11 2026. No macro, syntax, notation, axiom, sorry.
-/
import Derived.Test.YtolpgogmbebmcaaChecked
import GoSem.Claim
import GoSem.ClaimJoined
import GoSem.ClaimMapViews
import Derived.JoinedTies
import Derived.KernelRfl
namespace Go.Proofs.Ytolpgogmbebmcaa
/- THE CELL 'sum', in the pinned program and in every row, IS THE sha256 OF THE DUMP (.gsa) THAT YtolpgogmbebmcaaProg.lean LOADS. Nothing in Lean hashes anything: it is a label: what it is worth is what the hold of that sum in a sandbox is worth. -/
noncomputable def Try.pinned : Pinned := { name := "ytolpgogmbebmcaa", sum := "4c0992f1314a5353a693eff082716b9a3f4b2f2dfc8bf456c51ae481fa53b8e7", checked := Try.checked }
namespace Rows
def none {H : Type} : Left H := { results := [], args := [] }

/-- 'n011_76.FnDropFirstStatementCaseTable': WHATEVER THE INPUT: true; the input reads as it did. -/
def fnDropFirstStatementCaseTableSpec : ChangeSpec := { name := "fnDropFirstStatementCaseTable", fn := fun _ => fun
  | [d1, d2, d3, d4] => { results := [.lit (.bool true)], args := [d1, d2, d3, d4] }
  | _ => none }
def fnDropFirstStatementCaseTableRow : OpenClaim := { program := "ytolpgogmbebmcaa", sum := "4c0992f1314a5353a693eff082716b9a3f4b2f2dfc8bf456c51ae481fa53b8e7", func := "github.com/evanw/esbuild/n011_76.FnDropFirstStatementCaseTable", spec := "fnDropFirstStatementCaseTable", apart := false }
def FnDropFirstStatementCaseTableSaid : Prop := fnDropFirstStatementCaseTableRow.holds Try.pinned (OpenSpec.ofChange fnDropFirstStatementCaseTableSpec)

/-- ITS FALSE NEIGHBOUR: 'it returns false'. Refute it at one input. -/
def fnDropFirstStatementCaseTableWrong : ChangeSpec := { name := "fnDropFirstStatementCaseTable", fn := fun _ => fun
  | [d1, d2, d3, d4] => { results := [.lit (.bool false)], args := [d1, d2, d3, d4] }
  | _ => none }
def FnDropFirstStatementCaseTableWrongFalsely : Prop := fnDropFirstStatementCaseTableRow.holds Try.pinned (OpenSpec.ofChange fnDropFirstStatementCaseTableWrong)

/-- 'n011_76.FnDropFirstStatementDrainScript': WHATEVER THE INPUT: true; the input reads as it did. -/
def fnDropFirstStatementDrainScriptSpec : ChangeSpec := { name := "fnDropFirstStatementDrainScript", fn := fun _ => fun
  | [d] => { results := [.lit (.bool true)], args := [d] }
  | _ => none }
def fnDropFirstStatementDrainScriptRow : OpenClaim := { program := "ytolpgogmbebmcaa", sum := "4c0992f1314a5353a693eff082716b9a3f4b2f2dfc8bf456c51ae481fa53b8e7", func := "github.com/evanw/esbuild/n011_76.FnDropFirstStatementDrainScript", spec := "fnDropFirstStatementDrainScript", apart := false }
def FnDropFirstStatementDrainScriptSaid : Prop := fnDropFirstStatementDrainScriptRow.holds Try.pinned (OpenSpec.ofChange fnDropFirstStatementDrainScriptSpec)

/-- ITS FALSE NEIGHBOUR: 'it returns false'. Refute it at one input. -/
def fnDropFirstStatementDrainScriptWrong : ChangeSpec := { name := "fnDropFirstStatementDrainScript", fn := fun _ => fun
  | [d] => { results := [.lit (.bool false)], args := [d] }
  | _ => none }
def FnDropFirstStatementDrainScriptWrongFalsely : Prop := fnDropFirstStatementDrainScriptRow.holds Try.pinned (OpenSpec.ofChange fnDropFirstStatementDrainScriptWrong)

/-- 'n011_76.FnMangleForCaseTable': WHATEVER THE INPUT: true; the input reads as it did. -/
def fnMangleForCaseTableSpec : ChangeSpec := { name := "fnMangleForCaseTable", fn := fun _ => fun
  | [d1, d2, d3, d4] => { results := [.lit (.bool true)], args := [d1, d2, d3, d4] }
  | _ => none }
def fnMangleForCaseTableRow : OpenClaim := { program := "ytolpgogmbebmcaa", sum := "4c0992f1314a5353a693eff082716b9a3f4b2f2dfc8bf456c51ae481fa53b8e7", func := "github.com/evanw/esbuild/n011_76.FnMangleForCaseTable", spec := "fnMangleForCaseTable", recurses := true, apart := false }
def FnMangleForCaseTableSaid : Prop := fnMangleForCaseTableRow.holds Try.pinned (OpenSpec.ofChange fnMangleForCaseTableSpec)

/-- ITS FALSE NEIGHBOUR: 'it returns false'. Refute it at one input. -/
def fnMangleForCaseTableWrong : ChangeSpec := { name := "fnMangleForCaseTable", fn := fun _ => fun
  | [d1, d2, d3, d4] => { results := [.lit (.bool false)], args := [d1, d2, d3, d4] }
  | _ => none }
def FnMangleForCaseTableWrongFalsely : Prop := fnMangleForCaseTableRow.holds Try.pinned (OpenSpec.ofChange fnMangleForCaseTableWrong)

/-- 'n011_76.FnMangleForFoldsLeadingBreaks': WHATEVER THE INPUT: true; the input reads as it did. -/
def fnMangleForFoldsLeadingBreaksSpec : ChangeSpec := { name := "fnMangleForFoldsLeadingBreaks", fn := fun _ => fun
  | [d1, d2, d3] => { results := [.lit (.bool true)], args := [d1, d2, d3] }
  | _ => none }
def fnMangleForFoldsLeadingBreaksRow : OpenClaim := { program := "ytolpgogmbebmcaa", sum := "4c0992f1314a5353a693eff082716b9a3f4b2f2dfc8bf456c51ae481fa53b8e7", func := "github.com/evanw/esbuild/n011_76.FnMangleForFoldsLeadingBreaks", spec := "fnMangleForFoldsLeadingBreaks", recurses := true, apart := false }
def FnMangleForFoldsLeadingBreaksSaid : Prop := fnMangleForFoldsLeadingBreaksRow.holds Try.pinned (OpenSpec.ofChange fnMangleForFoldsLeadingBreaksSpec)

/-- ITS FALSE NEIGHBOUR: 'it returns false'. Refute it at one input. -/
def fnMangleForFoldsLeadingBreaksWrong : ChangeSpec := { name := "fnMangleForFoldsLeadingBreaks", fn := fun _ => fun
  | [d1, d2, d3] => { results := [.lit (.bool false)], args := [d1, d2, d3] }
  | _ => none }
def FnMangleForFoldsLeadingBreaksWrongFalsely : Prop := fnMangleForFoldsLeadingBreaksRow.holds Try.pinned (OpenSpec.ofChange fnMangleForFoldsLeadingBreaksWrong)

/- THE SECOND FORM. 'bulk': how many values and letters a reading holds, each counted each time it is reached (what is shared counts as often as it is met; a slice's spare places count too). A statement '..UptoSaid' is the law's where the arguments, and the package variables that the reading takes, are together of bulk at most 1048576: NARROWER than '..Said'. Prove '..Said' where nothing that the law and all that it calls make is longer than what came in: it says more and counts as full. Else prove '..UptoSaid'. A law counts once. -/
mutual
def uptoBulk {H : Type} : DataW H → Nat
  | .lit (.string bytes) => bytes.length + 1
  | .lit _ => 1
  | .nil => 1
  | .ptr d => uptoBulk d + 1
  | .slice elems spare => uptoBulkAll elems + uptoBulkAll spare + 1
  | .agg parts => uptoBulkAll parts + 1
  | .iface _ d => uptoBulk d + 1
  | .map entries => uptoBulkEntries entries + 1
  | .held _ => 1
def uptoBulkAll {H : Type} : List (DataW H) → Nat
  | [] => 0
  | d :: r => uptoBulk d + uptoBulkAll r
def uptoBulkEntries {H : Type} : List (Lit × DataW H) → Nat
  | [] => 0
  | x :: r => uptoBulkEntry x + uptoBulkEntries r
def uptoBulkEntry {H : Type} : Lit × DataW H → Nat
  | (.string bytes, d) => bytes.length + uptoBulk d + 1
  | (_, d) => uptoBulk d + 1
 end
def uptoSmall : (H : Type) → List (DataW H) → Bool := fun _ ds => decide (uptoBulkAll ds ≤ 1048576)
def OpenSpec.upto (s : _root_.Go.ChangeSpec) : _root_.Go.OpenSpec := { _root_.Go.OpenSpec.ofChange s with cond := some uptoSmall }

/-- 'n011_76.FnDropFirstStatementCaseTable', WHERE WHAT IT READS IS OF BULK AT MOST 1048576: true; the input reads as it did. -/
def fnDropFirstStatementCaseTableUptoRow : OpenClaim := { program := "ytolpgogmbebmcaa", sum := "4c0992f1314a5353a693eff082716b9a3f4b2f2dfc8bf456c51ae481fa53b8e7", func := "github.com/evanw/esbuild/n011_76.FnDropFirstStatementCaseTable", spec := "fnDropFirstStatementCaseTable", apart := false, narrowed := true }
def FnDropFirstStatementCaseTableUptoSaid : Prop := fnDropFirstStatementCaseTableUptoRow.holds Try.pinned (OpenSpec.upto fnDropFirstStatementCaseTableSpec)

/-- 'n011_76.FnDropFirstStatementDrainScript', WHERE WHAT IT READS IS OF BULK AT MOST 1048576: true; the input reads as it did. -/
def fnDropFirstStatementDrainScriptUptoRow : OpenClaim := { program := "ytolpgogmbebmcaa", sum := "4c0992f1314a5353a693eff082716b9a3f4b2f2dfc8bf456c51ae481fa53b8e7", func := "github.com/evanw/esbuild/n011_76.FnDropFirstStatementDrainScript", spec := "fnDropFirstStatementDrainScript", apart := false, narrowed := true }
def FnDropFirstStatementDrainScriptUptoSaid : Prop := fnDropFirstStatementDrainScriptUptoRow.holds Try.pinned (OpenSpec.upto fnDropFirstStatementDrainScriptSpec)

/-- 'n011_76.FnMangleForCaseTable', WHERE WHAT IT READS IS OF BULK AT MOST 1048576: true; the input reads as it did. -/
def fnMangleForCaseTableUptoRow : OpenClaim := { program := "ytolpgogmbebmcaa", sum := "4c0992f1314a5353a693eff082716b9a3f4b2f2dfc8bf456c51ae481fa53b8e7", func := "github.com/evanw/esbuild/n011_76.FnMangleForCaseTable", spec := "fnMangleForCaseTable", recurses := true, apart := false, narrowed := true }
def FnMangleForCaseTableUptoSaid : Prop := fnMangleForCaseTableUptoRow.holds Try.pinned (OpenSpec.upto fnMangleForCaseTableSpec)

/-- 'n011_76.FnMangleForFoldsLeadingBreaks', WHERE WHAT IT READS IS OF BULK AT MOST 1048576: true; the input reads as it did. -/
def fnMangleForFoldsLeadingBreaksUptoRow : OpenClaim := { program := "ytolpgogmbebmcaa", sum := "4c0992f1314a5353a693eff082716b9a3f4b2f2dfc8bf456c51ae481fa53b8e7", func := "github.com/evanw/esbuild/n011_76.FnMangleForFoldsLeadingBreaks", spec := "fnMangleForFoldsLeadingBreaks", recurses := true, apart := false, narrowed := true }
def FnMangleForFoldsLeadingBreaksUptoSaid : Prop := fnMangleForFoldsLeadingBreaksUptoRow.holds Try.pinned (OpenSpec.upto fnMangleForFoldsLeadingBreaksSpec)

end Rows
end Go.Proofs.Ytolpgogmbebmcaa
