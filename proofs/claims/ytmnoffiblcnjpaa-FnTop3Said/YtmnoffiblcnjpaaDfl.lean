/-
  The two default minifiers; conditions: those that each lemma names.
-/
import Derived.Test.YtmnoffiblcnjpaaElt
import Derived.Handy
namespace Go.Proofs.Ytmnoffiblcnjpaa
open Go.RowKit Go.Sort

def MinPost (tl : List UInt8) (w : World) (e : Ending) (w' : World) : Prop := (∃ h : ByteArray, e = .returned (.agg #[.string h, .string (S tl)])) ∧ Below w.heap.size w w'
theorem def_js (w : World) : Calls Try.prog 5 #[] w (MinPost (jsT) w) := by
  go_enter Try.func5, Try.ntmps5
  go_wp2
  go_returns
  exact ⟨⟨_, rfl⟩, (Below.refl _ _).alloc (Nat.le_refl _) _⟩
theorem def_css (w : World) : Calls Try.prog 6 #[] w (MinPost (jsT.take 63) w) := by
  go_enter Try.func6, Try.ntmps6
  go_wp2
  go_returns
  exact ⟨⟨_, rfl⟩, (Below.refl _ _).alloc (Nat.le_refl _) _⟩
end Go.Proofs.Ytmnoffiblcnjpaa
