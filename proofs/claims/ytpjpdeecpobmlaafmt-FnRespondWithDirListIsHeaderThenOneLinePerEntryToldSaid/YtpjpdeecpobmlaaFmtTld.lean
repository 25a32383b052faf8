/-
  What fmt is told to answer to the listing's three formats; no walk in sight (conditions: the sizes that each names).
-/
import Derived.Test.YtpjpdeecpobmlaaFmtPag
import Derived.Stop.Texts
import Derived.Stop.FmtTextKit
import Derived.Stop.Told
namespace Go.Proofs.YtpjpdeecpobmlaaFmt
open Go.Kit Go.RowKit Go.Extern.Stop Go.Stop Go.Extern

theorem parseP : (FmtText.parse fP).map FmtText.glue = some [.lit d0, .verb {} 115, .lit p1] := by rfl
theorem parseD : (FmtText.parse fD).map FmtText.glue = some [.lit d0, .verb {} 115, .lit d1, .verb {} 115, .lit d2] := by rfl
theorem parseF : (FmtText.parse fF).map FmtText.glue = some [.lit f0, .verb {} 115, .lit f1, .verb {} 115, .lit f2] := by rfl
theorem textP (x : List UInt8) (h1 : x.length < 2 ^ 64) : FmtText.text "fmt.Sprintf" (askP x) = some (lineP x) := by
  have hn := FmtText.operand_str_at (sh := shape9) rfl rfl x h1
  rw [askP, FmtText.text_sprintf_glued parseP (FmtText.operands_cons hn FmtText.operands_nil)]
  simp [FmtText.render, FmtText.printArg_s_str, lineP]
theorem textD (x y : List UInt8) (h1 : x.length < 2 ^ 64) (h2 : y.length < 2 ^ 64) : FmtText.text "fmt.Sprintf" (ask2 fD x y) = some (lineD2 x y) := by
  have hn := FmtText.operand_str_at (sh := shape9) rfl rfl x h1
  have ht := FmtText.operand_str_at (sh := shape9) rfl rfl y h2
  rw [ask2, FmtText.text_sprintf_glued parseD (FmtText.operands_cons hn (FmtText.operands_cons ht FmtText.operands_nil))]
  simp [FmtText.render, FmtText.printArg_s_str, lineD2]
theorem textF (x y : List UInt8) (h1 : x.length < 2 ^ 64) (h2 : y.length < 2 ^ 64) : FmtText.text "fmt.Sprintf" (ask2 fF x y) = some (lineF2 x y) := by
  have hn := FmtText.operand_str_at (sh := shape9) rfl rfl x h1
  have ht := FmtText.operand_str_at (sh := shape9) rfl rfl y h2
  rw [ask2, FmtText.text_sprintf_glued parseF (FmtText.operands_cons hn (FmtText.operands_cons ht FmtText.operands_nil))]
  simp [FmtText.render, FmtText.printArg_s_str, lineF2]

theorem says (F : Interp) : Says F.told where
  p := fun x h => by
    have l1 : x.data.toList.length = x.size := by simp
    have ht := told_string F (textP x.data.toList (by omega)) (by simp [lineP, d0, p1]; omega)
    apply eq_S
    rw [textOf_list, ht]
  d := fun x y h1 h2 => by
    have l1 : x.data.toList.length = x.size := by simp
    have l2 : y.data.toList.length = y.size := by simp
    have ht := told_string F (textD x.data.toList y.data.toList (by omega) (by omega)) (by simp [lineD2, d0, d1, d2]; omega)
    apply eq_S
    rw [textOf_list, ht]
  f := fun x y h1 h2 => by
    have l1 : x.data.toList.length = x.size := by simp
    have l2 : y.data.toList.length = y.size := by simp
    have ht := told_string F (textF x.data.toList y.data.toList (by omega) (by omega)) (by simp [lineF2, f0, f1, f2]; omega)
    apply eq_S
    rw [textOf_list, ht]

end Go.Proofs.YtpjpdeecpobmlaaFmt
