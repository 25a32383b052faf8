/-
  The insertion of one text into a sorted row (plain), and zzSorted; conditions: those that each lemma names.
-/
import Derived.Test.YtglchiomdojjoaaGreatFmtGrd
import Derived.Laws.CopyOwn
import Derived.BigQuiet
namespace Go.Proofs.YtglchiomdojjoaaGreatFmt
open Go.RowKit

/-- Place i of o is taken to p, the places between move up by one. -/
def ins {α : Type} [Inhabited α] (o : List α) (p i : Nat) : List α := o.take p ++ o[i]! :: ((o.take i).drop p ++ o.drop (i + 1))
/-- The row while the places from p on have moved up. -/
def gap {α : Type} [Inhabited α] (o : List α) (p i j : Nat) : α := if p < j ∧ j ≤ i then o[j - 1]! else o[j]!
theorem ins_length {α : Type} [Inhabited α] (o : List α) {p i : Nat} (hp : p ≤ i) (hi : i < o.length) : (ins o p i).length = o.length := by
  unfold ins
  simp only [List.length_append, List.length_cons, List.length_take, List.length_drop]
  omega
theorem gap_self {α : Type} [Inhabited α] (o : List α) (i j : Nat) : gap o i i j = o[j]! := by
  unfold gap
  rw [if_neg (by omega)]
theorem gap_step {α : Type} [Inhabited α] (o : List α) {p i : Nat} (hp : p + 1 ≤ i) (j : Nat) : (if j = p + 1 then o[p]! else gap o (p + 1) i j) = gap o p i j := by
  unfold gap
  by_cases h : j = p + 1
  · subst h
    rw [if_pos rfl, if_pos ⟨by omega, hp⟩]
    rfl
  · rw [if_neg h]
    by_cases h2 : p + 1 < j ∧ j ≤ i
    · rw [if_pos h2, if_pos ⟨by omega, h2.2⟩]
    · rw [if_neg h2, if_neg (by omega)]
theorem ins_get {α : Type} [Inhabited α] (o : List α) {p i : Nat} (hp : p ≤ i) (hi : i < o.length) (j : Nat) (hj : j < o.length) : (ins o p i)[j]! = if j = p then o[i]! else gap o p i j := by
  have hl := ins_length o hp hi
  rw [getElem!_pos _ j (by omega)]
  have e : (ins o p i)[j]? = some (if j = p then o[i]! else gap o p i j) := by
    unfold ins gap
    have hlp : (o.take p).length = p := by rw [List.length_take]; omega
    by_cases h1 : j < p
    · rw [List.getElem?_append_left (by omega), if_neg (by omega), if_neg (by omega), List.getElem?_take_of_lt h1, getElem!_pos o j hj, List.getElem?_eq_getElem hj]
    · rw [List.getElem?_append_right (by omega), hlp]
      by_cases h2 : j = p
      · subst h2
        rw [if_pos rfl, Nat.sub_self]
        rfl
      · obtain ⟨m, rfl⟩ : ∃ m, j = p + 1 + m := ⟨j - p - 1, by omega⟩
        rw [if_neg h2, show p + 1 + m - p = m + 1 by omega, List.getElem?_cons_succ]
        have hld : ((o.take i).drop p).length = i - p := by rw [List.length_drop, List.length_take]; omega
        by_cases h3 : p + 1 + m ≤ i
        · rw [List.getElem?_append_left (by omega), if_pos ⟨by omega, h3⟩, List.getElem?_drop, List.getElem?_take_of_lt (by omega), show p + 1 + m - 1 = p + m by omega, getElem!_pos o (p + m) (by omega), List.getElem?_eq_getElem (by omega)]
        · rw [List.getElem?_append_right (by omega), if_neg (by omega), hld, List.getElem?_drop, show i + 1 + (m - (i - p)) = p + 1 + m by omega, getElem!_pos o _ hj, List.getElem?_eq_getElem hj]
  have := List.getElem?_eq_getElem (l := ins o p i) (i := j) (by omega)
  rw [e] at this
  exact (Option.some.inj this).symm
theorem ins_split {α : Type} [Inhabited α] (o : List α) {p i : Nat} (hp : p ≤ i) (hi : i < o.length) : o = o.take p ++ ((o.take i).drop p ++ o[i]! :: o.drop (i + 1)) := by
  have h1 : o = o.take i ++ o[i]! :: o.drop (i + 1) := by
    rw [getElem!_pos o i hi, ← List.drop_eq_getElem_cons hi, List.take_append_drop]
  have h2 : o.take i = o.take p ++ (o.take i).drop p := by
    have := (List.take_append_drop p (o.take i)).symm
    rw [List.take_take, Nat.min_eq_left hp] at this
    exact this
  rw [← List.append_assoc, ← h2]
  exact h1
theorem ins_perm {α : Type} [Inhabited α] (o : List α) {p i : Nat} (hp : p ≤ i) (hi : i < o.length) : (ins o p i).Perm o := by
  have h := ins_split o hp hi
  unfold ins
  refine List.Perm.trans ?_ (List.Perm.of_eq h.symm)
  refine List.Perm.append_left _ ?_
  exact List.perm_middle.symm

abbrev Bs := List UInt8
/-- The order of the bytes. -/
def leB (a b : Bs) : Bool := decide (a ≤ b)
def srt (l : List Bs) : List Bs := l.mergeSort leB
theorem leB_trans : ∀ a b c : Bs, leB a b = true → leB b c = true → leB a c = true := fun a b c h1 h2 => by simp only [leB, decide_eq_true_eq] at *; exact List.le_trans h1 h2
theorem leB_total : ∀ a b : Bs, (leB a b || leB b a) = true := fun a b => by simp only [leB, Bool.or_eq_true, decide_eq_true_eq]; exact List.le_total a b
theorem srt_unique {l m : List Bs} (hp : m.Perm l) (hs : m.Pairwise (fun a b => leB a b = true)) : m = srt l := by
  refine List.Perm.eq_of_pairwise (fun a b _ _ h1 h2 => ?_) hs (List.pairwise_mergeSort leB_trans leB_total l) (hp.trans (List.mergeSort_perm l leB).symm)
  simp only [leB, decide_eq_true_eq] at h1 h2
  exact List.le_antisymm h1 h2
theorem srt_perm {l m : List Bs} (hp : l.Perm m) : srt l = srt m :=
  srt_unique ((List.mergeSort_perm l leB).trans hp) (List.pairwise_mergeSort leB_trans leB_total l)
theorem srt_length (l : List Bs) : (srt l).length = l.length := List.length_mergeSort l
theorem srt_mem {l : List Bs} {x : Bs} : x ∈ srt l ↔ x ∈ l := List.mem_mergeSort
abbrev Lo (a b : Bs) : Prop := leB a b = true
theorem ins_sorted (o : List Bs) {p i : Nat} (hp : p ≤ i) (hi : i < o.length) (hs : (o.take i).Pairwise Lo) (hup : ∀ k, p ≤ k → k < i → Lo o[i]! o[k]!) (hlo : 0 < p → Lo o[p - 1]! o[i]!) : ((ins o p i).take (i + 1)).Pairwise Lo := by
  have h2 : o.take i = o.take p ++ (o.take i).drop p := by
    have := (List.take_append_drop p (o.take i)).symm
    rw [List.take_take, Nat.min_eq_left hp] at this
    exact this
  have e : (ins o p i).take (i + 1) = o.take p ++ o[i]! :: (o.take i).drop p := by
    unfold ins
    have hl : (o.take p ++ o[i]! :: (o.take i).drop p).length = i + 1 := by
      simp only [List.length_append, List.length_cons, List.length_take, List.length_drop]
      omega
    rw [show o.take p ++ o[i]! :: ((o.take i).drop p ++ o.drop (i + 1)) = (o.take p ++ o[i]! :: (o.take i).drop p) ++ o.drop (i + 1) by simp, List.take_left' hl]
  rw [e]
  rw [h2, List.pairwise_append] at hs
  obtain ⟨ha, hb, hab⟩ := hs
  have hm : ∀ y, y ∈ (o.take i).drop p → Lo o[i]! y := by
    intro y hy
    obtain ⟨m, hm, rfl⟩ := List.getElem_of_mem hy
    rw [List.length_drop, List.length_take] at hm
    rw [List.getElem_drop, List.getElem_take, ← getElem!_pos o (p + m) (by omega)]
    exact hup _ (by omega) (by omega)
  have hn : ∀ x, x ∈ o.take p → Lo x o[i]! := by
    intro x hx
    obtain ⟨m, hm, rfl⟩ := List.getElem_of_mem hx
    rw [List.length_take] at hm
    rw [List.getElem_take]
    have hl := hlo (by omega)
    by_cases em : m = p - 1
    · have : o[m] = o[p - 1]! := by
        rw [getElem!_pos o (p - 1) (by omega)]
        congr 1
      rw [this]
      exact hl
    · have := List.pairwise_iff_getElem.1 ha m (p - 1) (by rw [List.length_take]; omega) (by rw [List.length_take]; omega) (by omega)
      rw [List.getElem_take, List.getElem_take] at this
      rw [getElem!_pos o (p - 1) (by omega)] at hl
      exact leB_trans _ _ _ this hl
  rw [List.pairwise_append]
  refine ⟨ha, List.pairwise_cons.2 ⟨hm, hb⟩, ?_⟩
  intro x hx y hy
  rcases List.mem_cons.1 hy with rfl | hy
  · exact hn x hx
  · exact hab x hx y hy
end Go.Proofs.YtglchiomdojjoaaGreatFmt
