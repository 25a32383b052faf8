/-
  The contract of the shim over dropFirstStatement: it hands on what dropFirstStatement returns; conditions: a contract of dropFirstStatement at the boxed world.
-/
import Derived.Test.YtolpgogmbebmcaaShim
namespace Go.Proofs.Ytolpgogmbebmcaa
open Go.RowKit

/-- The world in which the shim calls. -/
def W3 (w : World) (a b : Value) (k l : Int) : World := ((w.alloc (.cells #[a, .int .i32 k] 32)).alloc (.cells #[b, .int .i32 l] 32)).alloc (.cells #[.nilIface, .int .i32 0] 32)

def ShimPost (R : Value → Int → World → Prop) (w : World) (e : Ending) (w' : World) : Prop :=
  ∃ v l w4, e = .returned (.agg #[v, .int .i32 l]) ∧ R v l w4 ∧ w' = (w4.setCell ⟨w.heap.size + 1 + 1, 0, none⟩ v).setCell ⟨w.heap.size + 1 + 1, 1, none⟩ (.int .i32 l)

set_option maxHeartbeats 1000000 in
set_option maxRecDepth 100000 in
theorem shim_any' (a b : Value) (k l : Int) (R : Value → Int → World → Prop) (w : World)
    (h : Calls Try.prog 26 #[.agg #[a, .int .i32 k], .agg #[b, .int .i32 l]] (W3 w a b k l) fun e w4 => ∃ v l' row, e = .returned (.agg #[v, .int .i32 l']) ∧ v.oneCell' = true ∧ (W3 w a b k l).grownBy w4 row ∧ (∀ g, row = some g → g < w.heap.size) ∧ R v l' w4) :
    Calls Try.prog 12 #[.agg #[a, .int .i32 k], .agg #[b, .int .i32 l]] w (ShimPost R w) := by
  have H := Lib.hid h
  clear h
  go_enter Try.func12, Try.ntmps12
  go_wp2_with fail
  refine H.out.mono ?_
  rintro e w4 ⟨v, l', row, rfl, hone, hg4, hrow, hR⟩
  have hnr : some (w.heap.size + 1 + 1) ≠ row := fun e => by have := hrow _ e.symm; omega
  have hW : (W3 w a b k l).heap.size = w.heap.size + 1 + 1 + 1 := by simp [W3]
  have hbl : w4.heap[w.heap.size + 1 + 1]? = some (.cells #[.nilIface, .int .i32 0] 32) := by
    rw [hg4.block _ (by omega) hnr]
    have := heap_alloc_new ((w.alloc (.cells #[a, .int .i32 k] 32)).alloc (.cells #[b, .int .i32 l] 32)) (.cells #[.nilIface, .int .i32 0] 32)
    simpa [W3] using this
  have r1 : w4.cell? ⟨w.heap.size + 1 + 1, 0, none⟩ = some .nilIface := by rw [cell_of_row w4 _ 0 _ 32 (0, 0) hbl]; rfl
  have r2 : w4.cell? ⟨w.heap.size + 1 + 1, 1, none⟩ = some (.int .i32 0) := by rw [cell_of_row w4 _ 1 _ 32 (0, 0) hbl]; rfl
  have s1 : ∀ j, w4.frozen? ⟨w.heap.size + 1 + 1, j, none⟩ = false := fun j => by simp [World.frozen?, hbl]
  have hst : (store ⟨w.heap.size + 1 + 1, 0, none⟩ v).run Try.prog w4 = .ok () (w4.setCell ⟨w.heap.size + 1 + 1, 0, none⟩ v) := by
    rw [run_store Try.prog w4 _ v _ hone]
    simp [r1, s1]
  clear hbl hg4 hW hrow hnr
  go_wp2_with fail
  have u1 : (w4.setCell ⟨w.heap.size + 1 + 1, 0, none⟩ v).cell? ⟨w.heap.size + 1 + 1, 0, none⟩ = some v := World.cell?_setCell_same _ _ _ r1
  exact bodyPost_ret (v := .agg #[v, .int .i32 l']) (by simp [results, Try.results12, go_sem, u1, r2]) rfl ⟨v, l', w4, rfl, hR, rfl⟩

end Go.Proofs.Ytolpgogmbebmcaa
