/-
  The contracts of making the mock file system over no files and of its Cwd; no conditions.
-/
import Derived.Test.YtckkpbeiigapeaaDoorGrd
import Derived.Laws.IdiomRangeMap
namespace Go.Proofs.YtckkpbeiigapeaaDoor
open Go.RowKit

theorem cwd_any (b : Nat) (s : ByteArray) (w : World) (h : w.cell? ⟨b, 2, none⟩ = some (.string s)) :
    Calls Tryd.prog 71 #[.pointer (some ⟨b, 0, none⟩)] w fun e w' => e = .returned (.string s) ∧ w = w' := by
  go_enter Tryd.func71, Tryd.ntmps71
  go_wp2_with fail
  go_ret
  exact ⟨rfl, rfl⟩

def MockAt (s : ByteArray) (w : World) (e : Ending) (w' : World) : Prop :=
  (∃ b, e = .returned (.iface 61 (.pointer (some ⟨b, 0, none⟩))) ∧ w'.cell? ⟨b, 2, none⟩ = some (.string s) ∧ w'.cell? ⟨b, 4, none⟩ = some (.int .u8 0)) ∧ Below w.heap.size w w'

set_option maxHeartbeats 1000000 in
theorem mock_any (s : ByteArray) (w : World) : Calls Tryd.prog 13 #[.map none, .int .u8 0, .string s] w (MockAt s w) := by
  have e2 : ((w.alloc (.map #[] 0)).alloc (.map #[] 0)).heap.size = w.heap.size + 1 + 1 := by simp
  have hm1 := run_makeMap (P := Tryd.prog) 41 w
  have hm2 := run_makeMap (P := Tryd.prog) 40 (w.alloc (.map #[] 0))
  have hrg := run_range_nilMap (P := Tryd.prog) ((w.alloc (.map #[] 0)).alloc (.map #[] 0)) 40 _ _ Tryd.underlying40
  have hnx : ∀ ty, (Instr.next (.pointer (some ⟨((w.alloc (.map #[] 0)).alloc (.map #[] 0)).heap.size, 0, none⟩)) false ty).run Tryd.prog (((w.alloc (.map #[] 0)).alloc (.map #[] 0)).alloc (.mapIter none 0 #[] 0)) = _ := fun ty => run_next_nilMap _ ty 0 0 #[]
  rw [e2] at hrg hnx
  clear e2
  go_enter Tryd.func13, Tryd.ntmps13
  go_wp2
  refine wp_loop_rounds 1 ?_
  rw [rounds_succ]
  go_wp2
  go_ret
  refine ⟨⟨w.heap.size + 1 + 1 + 1, rfl, by go_simp, by go_simp⟩, ?_⟩
  exact ((((Below.refl _ _).alloc (Nat.le_refl _) _).alloc (by simp) _).alloc (by simp; omega) _).alloc (by simp; omega) _
end Go.Proofs.YtckkpbeiigapeaaDoor
