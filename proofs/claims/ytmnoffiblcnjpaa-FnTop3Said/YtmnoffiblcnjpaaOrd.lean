/-
  The insertion of one place into a sorted row of places (plain); no program in sight (conditions: those that each lemma names).
-/
import Derived.Test.YtmnoffiblcnjpaaElt
import Derived.Test.YtmnoffiblcnjpaaQin
namespace Go.Proofs.Ytmnoffiblcnjpaa
open Go.RowKit Go.Sort

/-- Place i of o is taken to p, the places between move up by one. -/
def ins (o : List Nat) (p i : Nat) : List Nat := o.take p ++ o[i]! :: ((o.take i).drop p ++ o.drop (i + 1))
/-- The row while the places from p on have moved up. -/
def gap (o : List Nat) (p i j : Nat) : Nat := if p < j ∧ j ≤ i then o[j - 1]! else o[j]!
theorem ins_length (o : List Nat) {p i : Nat} (hp : p ≤ i) (hi : i < o.length) : (ins o p i).length = o.length := by
  unfold ins
  simp only [List.length_append, List.length_cons, List.length_take, List.length_drop]
  omega
theorem gap_self (o : List Nat) (i j : Nat) : gap o i i j = o[j]! := by
  unfold gap
  rw [if_neg (by omega)]
theorem gap_step (o : List Nat) {p i : Nat} (hp : p + 1 ≤ i) (j : Nat) : (if j = p + 1 then o[p]! else gap o (p + 1) i j) = gap o p i j := by
  unfold gap
  by_cases h : j = p + 1
  · subst h
    rw [if_pos rfl, if_pos ⟨by omega, hp⟩]
    rfl
  · rw [if_neg h]
    by_cases h2 : p + 1 < j ∧ j ≤ i
    · rw [if_pos h2, if_pos ⟨by omega, h2.2⟩]
    · rw [if_neg h2, if_neg (by omega)]
theorem ins_get (o : List Nat) {p i : Nat} (hp : p ≤ i) (hi : i < o.length) (j : Nat) (hj : j < o.length) : (ins o p i)[j]! = if j = p then o[i]! else gap o p i j := by
  have hl := ins_length o hp hi
  rw [getElem!_pos _ j (by omega)]
  have e : (ins o p i)[j]? = some (if j = p then o[i]! else gap o p i j) := by
    unfold ins gap
    have hlp : (o.take p).length = p := by rw [List.length_take]; omega
    by_cases h1 : j < p
    · rw [List.getElem?_append_left (by omega), if_neg (by omega), if_neg (by omega), List.getElem?_take_of_lt h1, getElem!_pos o j hj, List.getElem?_eq_getElem hj]
    · rw [List.getElem?_append_right (by omega), hlp]
      by_cases h2 : j = p
      · subst h2
        rw [if_pos rfl, Nat.sub_self]
        rfl
      · obtain ⟨m, rfl⟩ : ∃ m, j = p + 1 + m := ⟨j - p - 1, by omega⟩
        rw [if_neg h2, show p + 1 + m - p = m + 1 by omega, List.getElem?_cons_succ]
        have hld : ((o.take i).drop p).length = i - p := by rw [List.length_drop, List.length_take]; omega
        by_cases h3 : p + 1 + m ≤ i
        · rw [List.getElem?_append_left (by omega), if_pos ⟨by omega, h3⟩, List.getElem?_drop, List.getElem?_take_of_lt (by omega), show p + 1 + m - 1 = p + m by omega, getElem!_pos o (p + m) (by omega), List.getElem?_eq_getElem (by omega)]
        · rw [List.getElem?_append_right (by omega), if_neg (by omega), hld, List.getElem?_drop, show i + 1 + (m - (i - p)) = p + 1 + m by omega, getElem!_pos o _ hj, List.getElem?_eq_getElem hj]
  have := List.getElem?_eq_getElem (l := ins o p i) (i := j) (by omega)
  rw [e] at this
  exact (Option.some.inj this).symm
theorem ins_split (o : List Nat) {p i : Nat} (hp : p ≤ i) (hi : i < o.length) : o = o.take p ++ ((o.take i).drop p ++ o[i]! :: o.drop (i + 1)) := by
  have h1 : o = o.take i ++ o[i]! :: o.drop (i + 1) := by
    rw [getElem!_pos o i hi, ← List.drop_eq_getElem_cons hi, List.take_append_drop]
  have h2 : o.take i = o.take p ++ (o.take i).drop p := by
    have := (List.take_append_drop p (o.take i)).symm
    rw [List.take_take, Nat.min_eq_left hp] at this
    exact this
  rw [← List.append_assoc, ← h2]
  exact h1
theorem ins_perm (o : List Nat) {p i : Nat} (hp : p ≤ i) (hi : i < o.length) : (ins o p i).Perm o := by
  have h := ins_split o hp hi
  unfold ins
  refine List.Perm.trans ?_ (List.Perm.of_eq h.symm)
  refine List.Perm.append_left _ ?_
  exact List.perm_middle.symm
/-- x does not stand behind y. -/
def Ri (T : List UInt8) (C : Nat → Int) (x y : Nat) : Prop := ltE (elT T C y) (elT T C x) = false
theorem ins_sorted (T : List UInt8) (C : Nat → Int) (o : List Nat) {p i : Nat} (hp : p ≤ i) (hi : i < o.length) (hs : (o.take i).Pairwise (Ri T C))
    (hup : ∀ k, p ≤ k → k < i → Ri T C o[i]! o[k]!) (hlo : 0 < p → ltE (elT T C o[p - 1]!) (elT T C o[i]!) = true) : ((ins o p i).take (i + 1)).Pairwise (Ri T C) := by
  have h2 : o.take i = o.take p ++ (o.take i).drop p := by
    have := (List.take_append_drop p (o.take i)).symm
    rw [List.take_take, Nat.min_eq_left hp] at this
    exact this
  have e : (ins o p i).take (i + 1) = o.take p ++ o[i]! :: (o.take i).drop p := by
    unfold ins
    have hl : (o.take p ++ o[i]! :: (o.take i).drop p).length = i + 1 := by
      simp only [List.length_append, List.length_cons, List.length_take, List.length_drop]
      omega
    rw [show o.take p ++ o[i]! :: ((o.take i).drop p ++ o.drop (i + 1)) = (o.take p ++ o[i]! :: (o.take i).drop p) ++ o.drop (i + 1) by simp, List.take_left' hl]
  rw [e]
  rw [h2, List.pairwise_append] at hs
  obtain ⟨ha, hb, hab⟩ := hs
  have hm : ∀ y, y ∈ (o.take i).drop p → Ri T C o[i]! y := by
    intro y hy
    obtain ⟨m, hm, rfl⟩ := List.getElem_of_mem hy
    rw [List.length_drop, List.length_take] at hm
    rw [List.getElem_drop, List.getElem_take, ← getElem!_pos o (p + m) (by omega)]
    exact hup _ (by omega) (by omega)
  have hn : ∀ x, x ∈ o.take p → Ri T C x o[i]! := by
    intro x hx
    obtain ⟨m, hm, rfl⟩ := List.getElem_of_mem hx
    rw [List.length_take] at hm
    rw [List.getElem_take]
    have h0 : 0 < p := by omega
    have hl := hlo h0
    have hle : Ri T C o[m] o[p - 1]! ∨ m = p - 1 := by
      by_cases em : m = p - 1
      · exact .inr em
      · left
        have := List.pairwise_iff_getElem.1 ha m (p - 1) (by rw [List.length_take]; omega) (by rw [List.length_take]; omega) (by omega)
        rw [List.getElem_take, List.getElem_take] at this
        rw [getElem!_pos o (p - 1) (by omega)]
        exact this
    unfold Ri at hle ⊢
    rcases hle with hle | em
    · rw [ltE_not] at hle ⊢
      rw [ltE_iff] at hl
      omega
    · have : o[m] = o[p - 1]! := by
        rw [getElem!_pos o (p - 1) (by omega)]
        congr 1
      rw [this]
      rw [ltE_not]
      rw [ltE_iff] at hl
      omega
  rw [List.pairwise_append]
  refine ⟨ha, List.pairwise_cons.2 ⟨hm, hb⟩, ?_⟩
  intro x hx y hy
  rcases List.mem_cons.1 hy with rfl | hy
  · exact hn x hx
  · exact hab x hx y hy
end Go.Proofs.Ytmnoffiblcnjpaa
