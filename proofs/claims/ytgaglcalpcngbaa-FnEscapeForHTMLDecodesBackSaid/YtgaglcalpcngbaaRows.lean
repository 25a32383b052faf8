/-
  No cell of these rows narrows 'for every input' (looked for: loops, veiled, ifaces, maps, wideKeys, modest, calm, conditions, laid).
  DERIVED. THE GIVEN ROWS OF THIS SEAT. 4 by the template 'for every input the law returns true; each argument reads behind the call as it read before'; 0 by the template 'total and deterministic' (their statements: YtgaglcalpcngbaaTotals.lean).
  GIVEN WITH THE SEED: the statements are not yours to turn. If you find one false, say at which input.
  Laid BY PROGRAM, IN A SANDBOX (cutbox-rows.mjs): the forced cells as the released guide's own fill.sh prints them over the translation 89671b432c6b691f… (all of the seat's roots in one cut). By AI agents, Wed Nov 11 2026. No macro, syntax, notation, axiom, sorry.
-/
import Derived.Test.YtgaglcalpcngbaaChecked
import GoSem.Claim
import GoSem.ClaimJoined
import GoSem.ClaimMapViews
import Derived.JoinedTies
import Derived.KernelRfl
namespace Go.Proofs.Ytgaglcalpcngbaa
/- THE CELL 'sum', in the pinned program and in every row, IS THE sha256 OF THE DUMP (.gsa) THAT YtgaglcalpcngbaaProg.lean LOADS. Nothing in Lean hashes anything: it is a label: what it is worth is what the hold of that sum in a sandbox is worth. -/
noncomputable def Try.pinned : Pinned := { name := "ytgaglcalpcngbaa", sum := "89671b432c6b691fe7e43f4804bccce44c75a9755f4af627d81b63fbebb19969", checked := Try.checked }
namespace Rows
def none {H : Type} : Left H := { results := [], args := [] }

/-- 'n011_24.FnEscapeForHTMLDecodesBack': WHATEVER THE INPUT: true; the input reads as it did. -/
def fnEscapeForHTMLDecodesBackSpec : ChangeSpec := { name := "fnEscapeForHTMLDecodesBack", fn := fun _ => fun
  | [d] => { results := [.lit (.bool true)], args := [d] }
  | _ => none }
def fnEscapeForHTMLDecodesBackRow : OpenClaim := { program := "ytgaglcalpcngbaa", sum := "89671b432c6b691fe7e43f4804bccce44c75a9755f4af627d81b63fbebb19969", func := "github.com/evanw/esbuild/n011_24.FnEscapeForHTMLDecodesBack", spec := "fnEscapeForHTMLDecodesBack", apart := false }
def FnEscapeForHTMLDecodesBackSaid : Prop := fnEscapeForHTMLDecodesBackRow.holds Try.pinned (OpenSpec.ofChange fnEscapeForHTMLDecodesBackSpec)

/-- ITS FALSE NEIGHBOUR: 'it returns false'. Refute it at one input. -/
def fnEscapeForHTMLDecodesBackWrong : ChangeSpec := { name := "fnEscapeForHTMLDecodesBack", fn := fun _ => fun
  | [d] => { results := [.lit (.bool false)], args := [d] }
  | _ => none }
def FnEscapeForHTMLDecodesBackWrongFalsely : Prop := fnEscapeForHTMLDecodesBackRow.holds Try.pinned (OpenSpec.ofChange fnEscapeForHTMLDecodesBackWrong)

/-- 'n011_24.FnEscapeForAttributeDecodesBackAndIsQuoteFree': WHATEVER THE INPUT: true; the input reads as it did. -/
def fnEscapeForAttributeDecodesBackAndIsQuoteFreeSpec : ChangeSpec := { name := "fnEscapeForAttributeDecodesBackAndIsQuoteFree", fn := fun _ => fun
  | [d] => { results := [.lit (.bool true)], args := [d] }
  | _ => none }
def fnEscapeForAttributeDecodesBackAndIsQuoteFreeRow : OpenClaim := { program := "ytgaglcalpcngbaa", sum := "89671b432c6b691fe7e43f4804bccce44c75a9755f4af627d81b63fbebb19969", func := "github.com/evanw/esbuild/n011_24.FnEscapeForAttributeDecodesBackAndIsQuoteFree", spec := "fnEscapeForAttributeDecodesBackAndIsQuoteFree", apart := false }
def FnEscapeForAttributeDecodesBackAndIsQuoteFreeSaid : Prop := fnEscapeForAttributeDecodesBackAndIsQuoteFreeRow.holds Try.pinned (OpenSpec.ofChange fnEscapeForAttributeDecodesBackAndIsQuoteFreeSpec)

/-- ITS FALSE NEIGHBOUR: 'it returns false'. Refute it at one input. -/
def fnEscapeForAttributeDecodesBackAndIsQuoteFreeWrong : ChangeSpec := { name := "fnEscapeForAttributeDecodesBackAndIsQuoteFree", fn := fun _ => fun
  | [d] => { results := [.lit (.bool false)], args := [d] }
  | _ => none }
def FnEscapeForAttributeDecodesBackAndIsQuoteFreeWrongFalsely : Prop := fnEscapeForAttributeDecodesBackAndIsQuoteFreeRow.holds Try.pinned (OpenSpec.ofChange fnEscapeForAttributeDecodesBackAndIsQuoteFreeWrong)

/-- 'n011_24.FnEscapeForHTMLPerByteModel': WHATEVER THE INPUT: true; the input reads as it did. -/
def fnEscapeForHTMLPerByteModelSpec : ChangeSpec := { name := "fnEscapeForHTMLPerByteModel", fn := fun _ => fun
  | [d] => { results := [.lit (.bool true)], args := [d] }
  | _ => none }
def fnEscapeForHTMLPerByteModelRow : OpenClaim := { program := "ytgaglcalpcngbaa", sum := "89671b432c6b691fe7e43f4804bccce44c75a9755f4af627d81b63fbebb19969", func := "github.com/evanw/esbuild/n011_24.FnEscapeForHTMLPerByteModel", spec := "fnEscapeForHTMLPerByteModel", apart := false }
def FnEscapeForHTMLPerByteModelSaid : Prop := fnEscapeForHTMLPerByteModelRow.holds Try.pinned (OpenSpec.ofChange fnEscapeForHTMLPerByteModelSpec)

/-- ITS FALSE NEIGHBOUR: 'it returns false'. Refute it at one input. -/
def fnEscapeForHTMLPerByteModelWrong : ChangeSpec := { name := "fnEscapeForHTMLPerByteModel", fn := fun _ => fun
  | [d] => { results := [.lit (.bool false)], args := [d] }
  | _ => none }
def FnEscapeForHTMLPerByteModelWrongFalsely : Prop := fnEscapeForHTMLPerByteModelRow.holds Try.pinned (OpenSpec.ofChange fnEscapeForHTMLPerByteModelWrong)

/-- 'n011_24.FnEscapeForAttributePerByteModel': WHATEVER THE INPUT: true; the input reads as it did. -/
def fnEscapeForAttributePerByteModelSpec : ChangeSpec := { name := "fnEscapeForAttributePerByteModel", fn := fun _ => fun
  | [d] => { results := [.lit (.bool true)], args := [d] }
  | _ => none }
def fnEscapeForAttributePerByteModelRow : OpenClaim := { program := "ytgaglcalpcngbaa", sum := "89671b432c6b691fe7e43f4804bccce44c75a9755f4af627d81b63fbebb19969", func := "github.com/evanw/esbuild/n011_24.FnEscapeForAttributePerByteModel", spec := "fnEscapeForAttributePerByteModel", apart := false }
def FnEscapeForAttributePerByteModelSaid : Prop := fnEscapeForAttributePerByteModelRow.holds Try.pinned (OpenSpec.ofChange fnEscapeForAttributePerByteModelSpec)

/-- ITS FALSE NEIGHBOUR: 'it returns false'. Refute it at one input. -/
def fnEscapeForAttributePerByteModelWrong : ChangeSpec := { name := "fnEscapeForAttributePerByteModel", fn := fun _ => fun
  | [d] => { results := [.lit (.bool false)], args := [d] }
  | _ => none }
def FnEscapeForAttributePerByteModelWrongFalsely : Prop := fnEscapeForAttributePerByteModelRow.holds Try.pinned (OpenSpec.ofChange fnEscapeForAttributePerByteModelWrong)

/- THE SECOND FORM. 'bulk': how many values and letters a reading holds, each counted each time it is reached (what is shared counts as often as it is met; a slice's spare places count too). A statement '..UptoSaid' is the law's where the arguments, and the package variables that the reading takes, are together of bulk at most 1048576: NARROWER than '..Said'. Prove '..Said' where nothing that the law and all that it calls make is longer than what came in: it says more and counts as full. Else prove '..UptoSaid'. A law counts once. -/
mutual
def uptoBulk {H : Type} : DataW H → Nat
  | .lit (.string bytes) => bytes.length + 1
  | .lit _ => 1
  | .nil => 1
  | .ptr d => uptoBulk d + 1
  | .slice elems spare => uptoBulkAll elems + uptoBulkAll spare + 1
  | .agg parts => uptoBulkAll parts + 1
  | .iface _ d => uptoBulk d + 1
  | .map entries => uptoBulkEntries entries + 1
  | .held _ => 1
def uptoBulkAll {H : Type} : List (DataW H) → Nat
  | [] => 0
  | d :: r => uptoBulk d + uptoBulkAll r
def uptoBulkEntries {H : Type} : List (Lit × DataW H) → Nat
  | [] => 0
  | x :: r => uptoBulkEntry x + uptoBulkEntries r
def uptoBulkEntry {H : Type} : Lit × DataW H → Nat
  | (.string bytes, d) => bytes.length + uptoBulk d + 1
  | (_, d) => uptoBulk d + 1
 end
def uptoSmall : (H : Type) → List (DataW H) → Bool := fun _ ds => decide (uptoBulkAll ds ≤ 1048576)
def OpenSpec.upto (s : _root_.Go.ChangeSpec) : _root_.Go.OpenSpec := { _root_.Go.OpenSpec.ofChange s with cond := some uptoSmall }

/-- 'n011_24.FnEscapeForHTMLDecodesBack', WHERE WHAT IT READS IS OF BULK AT MOST 1048576: true; the input reads as it did. -/
def fnEscapeForHTMLDecodesBackUptoRow : OpenClaim := { program := "ytgaglcalpcngbaa", sum := "89671b432c6b691fe7e43f4804bccce44c75a9755f4af627d81b63fbebb19969", func := "github.com/evanw/esbuild/n011_24.FnEscapeForHTMLDecodesBack", spec := "fnEscapeForHTMLDecodesBack", apart := false, narrowed := true }
def FnEscapeForHTMLDecodesBackUptoSaid : Prop := fnEscapeForHTMLDecodesBackUptoRow.holds Try.pinned (OpenSpec.upto fnEscapeForHTMLDecodesBackSpec)

/-- 'n011_24.FnEscapeForAttributeDecodesBackAndIsQuoteFree', WHERE WHAT IT READS IS OF BULK AT MOST 1048576: true; the input reads as it did. -/
def fnEscapeForAttributeDecodesBackAndIsQuoteFreeUptoRow : OpenClaim := { program := "ytgaglcalpcngbaa", sum := "89671b432c6b691fe7e43f4804bccce44c75a9755f4af627d81b63fbebb19969", func := "github.com/evanw/esbuild/n011_24.FnEscapeForAttributeDecodesBackAndIsQuoteFree", spec := "fnEscapeForAttributeDecodesBackAndIsQuoteFree", apart := false, narrowed := true }
def FnEscapeForAttributeDecodesBackAndIsQuoteFreeUptoSaid : Prop := fnEscapeForAttributeDecodesBackAndIsQuoteFreeUptoRow.holds Try.pinned (OpenSpec.upto fnEscapeForAttributeDecodesBackAndIsQuoteFreeSpec)

/-- 'n011_24.FnEscapeForHTMLPerByteModel', WHERE WHAT IT READS IS OF BULK AT MOST 1048576: true; the input reads as it did. -/
def fnEscapeForHTMLPerByteModelUptoRow : OpenClaim := { program := "ytgaglcalpcngbaa", sum := "89671b432c6b691fe7e43f4804bccce44c75a9755f4af627d81b63fbebb19969", func := "github.com/evanw/esbuild/n011_24.FnEscapeForHTMLPerByteModel", spec := "fnEscapeForHTMLPerByteModel", apart := false, narrowed := true }
def FnEscapeForHTMLPerByteModelUptoSaid : Prop := fnEscapeForHTMLPerByteModelUptoRow.holds Try.pinned (OpenSpec.upto fnEscapeForHTMLPerByteModelSpec)

/-- 'n011_24.FnEscapeForAttributePerByteModel', WHERE WHAT IT READS IS OF BULK AT MOST 1048576: true; the input reads as it did. -/
def fnEscapeForAttributePerByteModelUptoRow : OpenClaim := { program := "ytgaglcalpcngbaa", sum := "89671b432c6b691fe7e43f4804bccce44c75a9755f4af627d81b63fbebb19969", func := "github.com/evanw/esbuild/n011_24.FnEscapeForAttributePerByteModel", spec := "fnEscapeForAttributePerByteModel", apart := false, narrowed := true }
def FnEscapeForAttributePerByteModelUptoSaid : Prop := fnEscapeForAttributePerByteModelUptoRow.holds Try.pinned (OpenSpec.upto fnEscapeForAttributePerByteModelSpec)

end Rows
end Go.Proofs.Ytgaglcalpcngbaa
