/-
  Six strings are the same as themselves; conditions: their sizes.
-/
import Derived.Test.YtjanppdeddfehaaFmtRows
import Derived.DeepKeys
import Derived.WalkKit
namespace Go.Proofs.YtjanppdeddfehaaFmt
open Go.RowKit

theorem eq6 (x1 x2 x3 x4 x5 x6 : ByteArray) (h1 : x1.size ≤ maxLen) (h2 : x2.size ≤ maxLen) (h3 : x3.size ≤ maxLen) (h4 : x4.size ≤ maxLen) (h5 : x5.size ≤ maxLen) (h6 : x6.size ≤ maxLen) (w : World) :
    (Op.equalIn 10000 25 (.agg #[.string x1, .string x2, .string x3, .string x4, .string x5, .string x6]) (.agg #[.string x1, .string x2, .string x3, .string x4, .string x5, .string x6])).run Tryf.prog w = .ok true w := by
  have c25 : Tryf.prog.cellsOf 25 = 6 := by kernel_rfl
  have c9 : Tryf.prog.cellsOf 9 = 1 := by kernel_rfl
  have hk : Tryf.prog.keyLits 3 25 (Value.agg #[.string x1, .string x2, .string x3, .string x4, .string x5, .string x6]).cells.toList = some [.string x1.data.toList, .string x2.data.toList, .string x3.data.toList, .string x4.data.toList, .string x5.data.toList, .string x6.data.toList] := by
    unfold Program.keyLits
    rw [Tryf.underlying25]
    simp [Value.cells, c25, c9, Program.keyLits, Tryf.underlying9, h1, h2, h3, h4, h5, h6, List.range_succ]
  obtain ⟨r, hr, hi⟩ := run_equalIn_deep (P := Tryf.prog) 9998 2 25 (by kernel_rfl) w 3 3 (.agg #[.string x1, .string x2, .string x3, .string x4, .string x5, .string x6]) (.agg #[.string x1, .string x2, .string x3, .string x4, .string x5, .string x6]) _ _ (by kernel_rfl) (by kernel_rfl) hk hk
  rw [hi.2 rfl] at hr
  exact hr
end Go.Proofs.YtjanppdeddfehaaFmt
