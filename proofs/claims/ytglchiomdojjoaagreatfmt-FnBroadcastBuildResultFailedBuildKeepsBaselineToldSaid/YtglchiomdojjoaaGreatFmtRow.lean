/-
  Rows of cells in memory: plain facts on worlds; no program in sight (conditions: those that each lemma names).
-/
import Derived.WalkKit
import Derived.Lib.Hide
import Derived.Deep.Draws
namespace Go.Proofs.YtglchiomdojjoaaGreatFmt
open Go.RowKit

/-- Block g is a row of n cells of type t, none frozen, that reads as f. -/
def Row (w : World) (g : Nat) (t : TypeId) (n : Nat) (f : Nat → Value) : Prop := ∃ cs, w.heap[g]? = some (.cells cs t (0, 0)) ∧ cs.size = n ∧ ∀ i, i < n → cs[i]? = some (f i)
section
variable {w w' : World} {g n : Nat} {t : TypeId} {f : Nat → Value}
theorem Row.lt (h : Row w g t n f) : g < w.heap.size := by
  obtain ⟨cs, h1, _⟩ := h
  exact (Array.getElem?_eq_some_iff.1 h1).1
theorem Row.cell (h : Row w g t n f) {i : Nat} (hi : i < n) : w.cell? ⟨g, i, none⟩ = some (f i) := by
  obtain ⟨cs, h1, _, h3⟩ := h
  rw [cell_of_row w g i cs t (0, 0) h1]
  exact h3 i hi
theorem Row.frozen (h : Row w g t n f) (i : Nat) : w.frozen? ⟨g, i, none⟩ = false := by
  obtain ⟨cs, h1, _, _⟩ := h
  simp [World.frozen?, h1]
theorem Row.set (h : Row w g t n f) (i : Nat) (u : Value) : Row (w.setCell ⟨g, i, none⟩ u) g t n (fun j => if j = i then u else f j) := by
  obtain ⟨cs, h1, h2, h3⟩ := h
  refine ⟨cs.setIfInBounds i u, by simp [World.setCell, Array.getElem?_modify, h1], by simp [h2], fun j hj => ?_⟩
  rw [Array.getElem?_setIfInBounds]
  by_cases e : i = j
  · subst e
    rw [if_pos rfl, if_pos (by omega)]
    show _ = some (if i = i then u else f i)
    rw [if_pos rfl]
  · rw [if_neg e]
    show _ = some (if j = i then u else f j)
    rw [if_neg (fun h => e h.symm)]
    exact h3 j hj
theorem Row.far (h : Row w g t n f) {p : Addr} (hp : g ≠ p.block) (u : Value) : Row (w.setCell p u) g t n f := by
  obtain ⟨cs, h1, h2, h3⟩ := h
  exact ⟨cs, (Below.heap_setCell w p u g hp).trans h1, h2, h3⟩
theorem Row.below {B : Nat} (h : Row w g t n f) (hb : Below B w w') (hg : g < B) : Row w' g t n f := by
  obtain ⟨cs, h1, h2, h3⟩ := h
  exact ⟨cs, (hb.block g hg).trans h1, h2, h3⟩
theorem Row.grown {row : Option Nat} (h : Row w g t n f) (hb : w.grownBy w' row) (hg : some g ≠ row) : Row w' g t n f := by
  have hl := h.lt
  obtain ⟨cs, h1, h2, h3⟩ := h
  exact ⟨cs, (hb.block g hl hg).trans h1, h2, h3⟩
theorem Row.congr {f' : Nat → Value} (h : Row w g t n f) (he : ∀ i, i < n → f i = f' i) : Row w g t n f' := by
  obtain ⟨cs, h1, h2, h3⟩ := h
  exact ⟨cs, h1, h2, fun i hi => by rw [h3 i hi, he i hi]⟩
end

theorem Row.drewN {w : World} {g n : Nat} {t : TypeId} {f : Nat → Value} (h : Row w g t n f) (k : Nat) : Row (w.drewN k) g t n f := h
theorem Row.alloc {w : World} {g n : Nat} {t : TypeId} {f : Nat → Value} (h : Row w g t n f) (o : Obj) : Row (w.alloc o) g t n f := by
  have hl := h.lt
  obtain ⟨cs, h1, h2, h3⟩ := h
  exact ⟨cs, (Below.heap_alloc w o g hl).trans h1, h2, h3⟩
theorem Row.new (w : World) (t : TypeId) (cs : Array Value) (n : Nat) (f : Nat → Value) (hn : cs.size = n) (hf : ∀ i, i < n → cs[i]? = some (f i)) : Row (w.alloc (.cells cs t)) w.heap.size t n f :=
  ⟨cs, heap_alloc_new w _, hn, hf⟩

/-- What 'make' lays, cell by cell. -/
theorem made_cell (z : Value) (n i : Nat) (hz : 0 < z.cells.size) (hi : i < n) : (madeCells z.cells n).toList[i]? = z.cells[i % z.cells.size]? := by
  unfold madeCells
  have hm : i % z.cells.size < z.cells.size := Nat.mod_lt _ hz
  simp [hi, Array.getElem?_eq_getElem hm]
  exact getElem!_pos z.cells _ hm
theorem row_made {w w' : World} {B n size : Nat} {e : TypeId} {z : Value} (hz : z.cells.size = size) (hs : 0 < size) (f : Nat → Value) (hf : ∀ i, i < n * size → z.cells[i % size]? = some (f i))
    (h : w'.ownsRow B e size (.slice (some ⟨w.heap.size, 0, none⟩) n n) n (madeCells z.cells (n * size)).toList) : Row w' w.heap.size e (n * size) f := by
  obtain ⟨hl, ⟨hv, _⟩ | ⟨g, cap, cur, hv, hbg, hg, hnc, hcm, hcs, htake⟩⟩ := h
  · cases hv
  · injection hv with h1 h2 h3
    injection h1 with h1
    injection h1 with h1
    subst h1 h3
    refine ⟨cur, hg, hcs, fun i hi => ?_⟩
    rw [← Array.getElem?_toList]
    have e : cur.toList = (madeCells z.cells (n * size)).toList := by
      rw [← htake, List.take_of_length_le (by rw [Array.length_toList]; omega)]
    rw [e, made_cell z _ i (by omega) hi, hz]
    exact hf i hi

end Go.Proofs.YtglchiomdojjoaaGreatFmt
