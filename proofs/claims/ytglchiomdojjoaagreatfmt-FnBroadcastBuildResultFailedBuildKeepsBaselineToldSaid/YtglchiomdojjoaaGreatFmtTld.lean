/-
  What fmt is told to answer to three texts in a row; no walk in sight (conditions: the sizes that it names).
-/
import Derived.Test.YtglchiomdojjoaaGreatFmtUrl
import Derived.Stop.Texts
import Derived.Stop.FmtTextKit
import Derived.Stop.Told
namespace Go.Proofs.YtglchiomdojjoaaGreatFmt
open Go.Kit Go.RowKit Go.Extern.Stop Go.Stop Go.Extern

theorem parse3 : (FmtText.parse f3).map FmtText.glue = some [.verb {} 115, .verb {} 115, .verb {} 115] := by rfl
theorem text3 (x y z : List UInt8) (h1 : x.length < 2 ^ 64) (h2 : y.length < 2 ^ 64) (h3 : z.length < 2 ^ 64) : FmtText.text "fmt.Sprintf" (ask3 x y z) = some (x ++ y ++ z) := by
  have hn := FmtText.operand_str_at (sh := shape9) rfl rfl x h1
  have ht := FmtText.operand_str_at (sh := shape9) rfl rfl y h2
  have hu := FmtText.operand_str_at (sh := shape9) rfl rfl z h3
  rw [ask3, FmtText.text_sprintf_glued parse3 (FmtText.operands_cons hn (FmtText.operands_cons ht (FmtText.operands_cons hu FmtText.operands_nil)))]
  simp [FmtText.render, FmtText.printArg_s_str]
theorem says (F : Interp) : Says F.told where
  t := fun x y z h1 h2 h3 => by
    have l1 : x.data.toList.length = x.size := by simp
    have l2 : y.data.toList.length = y.size := by simp
    have l3 : z.data.toList.length = z.size := by simp
    have ht := told_string F (text3 x.data.toList y.data.toList z.data.toList (by omega) (by omega) (by omega)) (by simp; omega)
    apply eq_S
    rw [textOf_list, ht]
end Go.Proofs.YtglchiomdojjoaaGreatFmt
