/-
  The contract of making the parser; no conditions.
-/
import Derived.Test.YtjinajfejbpicaaDoorStp
namespace Go.Proofs.YtjinajfejbpicaaDoor
open Go.RowKit

set_option maxHeartbeats 4000000 in
set_option maxRecDepth 100000 in
theorem parser_any (b : Bool) (w : World) : Calls Tryd.prog 19 #[.bool b] w fun e w' => (∃ pb, e = .returned (.pointer (some ⟨pb, 0, none⟩)) ∧ w'.cell? ⟨pb, 50, none⟩ = some (.bool b)) ∧ Below w.heap.size w w' := by
  go_enter Tryd.func19, Tryd.ntmps19
  go_wp2_with fail
  go_ret
  exact ⟨⟨_, rfl, by go_simp⟩, (Below.refl _ _).alloc (Nat.le_refl _) _⟩
end Go.Proofs.YtjinajfejbpicaaDoor
