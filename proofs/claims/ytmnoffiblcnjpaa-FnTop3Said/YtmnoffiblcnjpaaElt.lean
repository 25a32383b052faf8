/-
  The letters as elements (plain); no program in sight (conditions: those that each lemma names).
-/
import Derived.Test.YtmnoffiblcnjpaaAlp
import Derived.Test.YtmnoffiblcnjpaaDef
namespace Go.Proofs.Ytmnoffiblcnjpaa
open Go.RowKit Go.Sort

def elT (T : List UInt8) (C : Nat → Int) (i : Nat) : El := ⟨S [T[i]!], C i, i⟩
def cat (L : List El) : List UInt8 := L.flatMap fun x => x.ch.data.toList
theorem cat_filter (L : List El) : cat (L.filter fun x => x.ch.size != 0) = cat L := by
  unfold cat
  induction L with
  | nil => rfl
  | cons x L ih =>
    by_cases h : x.ch.size = 0
    · have h2 : x.ch.data.toList = [] := List.length_eq_zero_iff.1 (by rw [size_len]; exact h)
      rw [List.filter_cons_of_neg (by simp [h]), ih, List.flatMap_cons, h2]
      rfl
    · rw [List.filter_cons_of_pos (by simpa using h), List.flatMap_cons, List.flatMap_cons, ih]
theorem cat_elT (T : List UInt8) (C : Nat → Int) (o : List Nat) : cat (o.map (elT T C)) = o.map fun i => T[i]! := by
  unfold cat
  induction o with
  | nil => rfl
  | cons i o ih =>
    rw [List.map_cons, List.flatMap_cons, ih, List.map_cons]
    show (S [T[i]!]).data.toList ++ _ = _
    rw [S_data]
    rfl
end Go.Proofs.Ytmnoffiblcnjpaa
