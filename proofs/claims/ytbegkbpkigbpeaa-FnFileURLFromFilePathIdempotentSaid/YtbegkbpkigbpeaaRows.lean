/-
  No cell of these rows narrows 'for every input' (looked for: loops, veiled, ifaces, maps, wideKeys, modest, calm, conditions, laid).
  DERIVED. THE GIVEN ROWS OF THIS SEAT. 3 by the template 'for every input the law returns true; each argument reads behind the call as it read before'; 0 by the template 'total and deterministic' (their statements: YtbegkbpkigbpeaaTotals.lean).
  GIVEN WITH THE SEED: the statements are not yours to turn. If you find one false, say at which input.
  Laid BY PROGRAM, IN A SANDBOX (cutbox-rows.mjs): the forced cells as the released guide's own fill.sh prints them over the translation a53aabcefe13c36c… (all of the seat's roots in one cut). By AI agents, Wed Nov 11 2026. No macro, syntax, notation, axiom, sorry.
-/
import Derived.Test.YtbegkbpkigbpeaaChecked
import GoSem.Claim
import GoSem.ClaimJoined
import GoSem.ClaimMapViews
import Derived.JoinedTies
import Derived.KernelRfl
namespace Go.Proofs.Ytbegkbpkigbpeaa
/- THE CELL 'sum', in the pinned program and in every row, IS THE sha256 OF THE DUMP (.gsa) THAT YtbegkbpkigbpeaaProg.lean LOADS. Nothing in Lean hashes anything: it is a label: what it is worth is what the hold of that sum in a sandbox is worth. -/
noncomputable def Try.pinned : Pinned := { name := "ytbegkbpkigbpeaa", sum := "a53aabcefe13c36c992f7cab24ac3a4682e3ac7508b62cb7111ad8e946e4a3b3", checked := Try.checked }
namespace Rows
def none {H : Type} : Left H := { results := [], args := [] }

/-- 'n011_167.FnFileURLFromFilePathIdempotent': WHATEVER THE INPUT: true; the input reads as it did. -/
def fnFileURLFromFilePathIdempotentSpec : ChangeSpec := { name := "fnFileURLFromFilePathIdempotent", fn := fun _ => fun
  | [d] => { results := [.lit (.bool true)], args := [d] }
  | _ => none }
def fnFileURLFromFilePathIdempotentRow : OpenClaim := { program := "ytbegkbpkigbpeaa", sum := "a53aabcefe13c36c992f7cab24ac3a4682e3ac7508b62cb7111ad8e946e4a3b3", func := "github.com/evanw/esbuild/n011_167.FnFileURLFromFilePathIdempotent", spec := "fnFileURLFromFilePathIdempotent", apart := false }
def FnFileURLFromFilePathIdempotentSaid : Prop := fnFileURLFromFilePathIdempotentRow.holds Try.pinned (OpenSpec.ofChange fnFileURLFromFilePathIdempotentSpec)

/-- ITS FALSE NEIGHBOUR: 'it returns false'. Refute it at one input. -/
def fnFileURLFromFilePathIdempotentWrong : ChangeSpec := { name := "fnFileURLFromFilePathIdempotent", fn := fun _ => fun
  | [d] => { results := [.lit (.bool false)], args := [d] }
  | _ => none }
def FnFileURLFromFilePathIdempotentWrongFalsely : Prop := fnFileURLFromFilePathIdempotentRow.holds Try.pinned (OpenSpec.ofChange fnFileURLFromFilePathIdempotentWrong)

/-- 'n011_167.FnIsFileURLAcceptsEveryMadeURL': WHATEVER THE INPUT: true; the input reads as it did. -/
def fnIsFileURLAcceptsEveryMadeURLSpec : ChangeSpec := { name := "fnIsFileURLAcceptsEveryMadeURL", fn := fun _ => fun
  | [d1, d2] => { results := [.lit (.bool true)], args := [d1, d2] }
  | _ => none }
def fnIsFileURLAcceptsEveryMadeURLRow : OpenClaim := { program := "ytbegkbpkigbpeaa", sum := "a53aabcefe13c36c992f7cab24ac3a4682e3ac7508b62cb7111ad8e946e4a3b3", func := "github.com/evanw/esbuild/n011_167.FnIsFileURLAcceptsEveryMadeURL", spec := "fnIsFileURLAcceptsEveryMadeURL", apart := false }
def FnIsFileURLAcceptsEveryMadeURLSaid : Prop := fnIsFileURLAcceptsEveryMadeURLRow.holds Try.pinned (OpenSpec.ofChange fnIsFileURLAcceptsEveryMadeURLSpec)

/-- ITS FALSE NEIGHBOUR: 'it returns false'. Refute it at one input. -/
def fnIsFileURLAcceptsEveryMadeURLWrong : ChangeSpec := { name := "fnIsFileURLAcceptsEveryMadeURL", fn := fun _ => fun
  | [d1, d2] => { results := [.lit (.bool false)], args := [d1, d2] }
  | _ => none }
def FnIsFileURLAcceptsEveryMadeURLWrongFalsely : Prop := fnIsFileURLAcceptsEveryMadeURLRow.holds Try.pinned (OpenSpec.ofChange fnIsFileURLAcceptsEveryMadeURLWrong)

/-- 'n011_167.FnFileURLFromFilePathExact': WHATEVER THE INPUT: true; the input reads as it did. -/
def fnFileURLFromFilePathExactSpec : ChangeSpec := { name := "fnFileURLFromFilePathExact", fn := fun _ => fun
  | [d] => { results := [.lit (.bool true)], args := [d] }
  | _ => none }
def fnFileURLFromFilePathExactRow : OpenClaim := { program := "ytbegkbpkigbpeaa", sum := "a53aabcefe13c36c992f7cab24ac3a4682e3ac7508b62cb7111ad8e946e4a3b3", func := "github.com/evanw/esbuild/n011_167.FnFileURLFromFilePathExact", spec := "fnFileURLFromFilePathExact", apart := false }
def FnFileURLFromFilePathExactSaid : Prop := fnFileURLFromFilePathExactRow.holds Try.pinned (OpenSpec.ofChange fnFileURLFromFilePathExactSpec)

/-- ITS FALSE NEIGHBOUR: 'it returns false'. Refute it at one input. -/
def fnFileURLFromFilePathExactWrong : ChangeSpec := { name := "fnFileURLFromFilePathExact", fn := fun _ => fun
  | [d] => { results := [.lit (.bool false)], args := [d] }
  | _ => none }
def FnFileURLFromFilePathExactWrongFalsely : Prop := fnFileURLFromFilePathExactRow.holds Try.pinned (OpenSpec.ofChange fnFileURLFromFilePathExactWrong)

/- THE SECOND FORM. 'bulk': how many values and letters a reading holds, each counted each time it is reached (what is shared counts as often as it is met; a slice's spare places count too). A statement '..UptoSaid' is the law's where the arguments, and the package variables that the reading takes, are together of bulk at most 1048576: NARROWER than '..Said'. Prove '..Said' where nothing that the law and all that it calls make is longer than what came in: it says more and counts as full. Else prove '..UptoSaid'. A law counts once. -/
mutual
def uptoBulk {H : Type} : DataW H → Nat
  | .lit (.string bytes) => bytes.length + 1
  | .lit _ => 1
  | .nil => 1
  | .ptr d => uptoBulk d + 1
  | .slice elems spare => uptoBulkAll elems + uptoBulkAll spare + 1
  | .agg parts => uptoBulkAll parts + 1
  | .iface _ d => uptoBulk d + 1
  | .map entries => uptoBulkEntries entries + 1
  | .held _ => 1
def uptoBulkAll {H : Type} : List (DataW H) → Nat
  | [] => 0
  | d :: r => uptoBulk d + uptoBulkAll r
def uptoBulkEntries {H : Type} : List (Lit × DataW H) → Nat
  | [] => 0
  | x :: r => uptoBulkEntry x + uptoBulkEntries r
def uptoBulkEntry {H : Type} : Lit × DataW H → Nat
  | (.string bytes, d) => bytes.length + uptoBulk d + 1
  | (_, d) => uptoBulk d + 1
 end
def uptoSmall : (H : Type) → List (DataW H) → Bool := fun _ ds => decide (uptoBulkAll ds ≤ 1048576)
def OpenSpec.upto (s : _root_.Go.ChangeSpec) : _root_.Go.OpenSpec := { _root_.Go.OpenSpec.ofChange s with cond := some uptoSmall }

/-- 'n011_167.FnFileURLFromFilePathIdempotent', WHERE WHAT IT READS IS OF BULK AT MOST 1048576: true; the input reads as it did. -/
def fnFileURLFromFilePathIdempotentUptoRow : OpenClaim := { program := "ytbegkbpkigbpeaa", sum := "a53aabcefe13c36c992f7cab24ac3a4682e3ac7508b62cb7111ad8e946e4a3b3", func := "github.com/evanw/esbuild/n011_167.FnFileURLFromFilePathIdempotent", spec := "fnFileURLFromFilePathIdempotent", apart := false, narrowed := true }
def FnFileURLFromFilePathIdempotentUptoSaid : Prop := fnFileURLFromFilePathIdempotentUptoRow.holds Try.pinned (OpenSpec.upto fnFileURLFromFilePathIdempotentSpec)

/-- 'n011_167.FnIsFileURLAcceptsEveryMadeURL', WHERE WHAT IT READS IS OF BULK AT MOST 1048576: true; the input reads as it did. -/
def fnIsFileURLAcceptsEveryMadeURLUptoRow : OpenClaim := { program := "ytbegkbpkigbpeaa", sum := "a53aabcefe13c36c992f7cab24ac3a4682e3ac7508b62cb7111ad8e946e4a3b3", func := "github.com/evanw/esbuild/n011_167.FnIsFileURLAcceptsEveryMadeURL", spec := "fnIsFileURLAcceptsEveryMadeURL", apart := false, narrowed := true }
def FnIsFileURLAcceptsEveryMadeURLUptoSaid : Prop := fnIsFileURLAcceptsEveryMadeURLUptoRow.holds Try.pinned (OpenSpec.upto fnIsFileURLAcceptsEveryMadeURLSpec)

/-- 'n011_167.FnFileURLFromFilePathExact', WHERE WHAT IT READS IS OF BULK AT MOST 1048576: true; the input reads as it did. -/
def fnFileURLFromFilePathExactUptoRow : OpenClaim := { program := "ytbegkbpkigbpeaa", sum := "a53aabcefe13c36c992f7cab24ac3a4682e3ac7508b62cb7111ad8e946e4a3b3", func := "github.com/evanw/esbuild/n011_167.FnFileURLFromFilePathExact", spec := "fnFileURLFromFilePathExact", apart := false, narrowed := true }
def FnFileURLFromFilePathExactUptoSaid : Prop := fnFileURLFromFilePathExactUptoRow.holds Try.pinned (OpenSpec.upto fnFileURLFromFilePathExactSpec)

end Rows
end Go.Proofs.Ytbegkbpkigbpeaa
