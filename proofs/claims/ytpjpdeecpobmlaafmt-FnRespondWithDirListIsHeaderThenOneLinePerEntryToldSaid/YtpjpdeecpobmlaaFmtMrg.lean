/-
  Plain facts on a bottom-up merge sort: one pass over a list in pieces of twice a width; what a pass keeps; no program in sight (conditions: those that each lemma names).
-/
import Derived.Test.YtpjpdeecpobmlaaFmtMps
namespace Go.Proofs.YtpjpdeecpobmlaaFmt
open Go.RowKit Go.Maps Go.Sort

abbrev LB := List (List UInt8)
/-- Two neighbouring pieces merged. -/
def mg (l : LB) (w : Nat) : LB := List.merge (l.take w) ((l.drop w).take w) leB
/-- One pass. -/
def pass : Nat → Nat → LB → LB
  | 0, _, l => l
  | f + 1, w, l => if l = [] then [] else mg l w ++ pass f w (l.drop (2 * w))

theorem mg_length (l : LB) (w : Nat) : (mg l w).length = min (2 * w) l.length := by
  rw [mg, List.length_merge, List.length_take, List.length_take, List.length_drop]
  omega
theorem mg_perm (l : LB) (w : Nat) : (mg l w).Perm (l.take (2 * w)) := by
  refine (List.merge_perm_append ..).trans ?_
  rw [show 2 * w = w + w by omega, List.take_add]
theorem pass_nil (f w : Nat) : pass f w [] = [] := by cases f <;> simp [pass]
theorem pass_perm : ∀ (f w : Nat) (l : LB), (pass f w l).Perm l
  | 0, _, _ => List.Perm.refl _
  | f + 1, w, l => by
    unfold pass
    split
    · next h => rw [h]
    · refine ((mg_perm l w).append (pass_perm f w (l.drop (2 * w)))).trans ?_
      rw [List.take_append_drop]

/-- Each piece of w is sorted. -/
def CS (w : Nat) (l : LB) : Prop := ∀ m, ((l.drop (m * w)).take w).Pairwise (fun a b => leB a b = true)
theorem CS_nil (w : Nat) : CS w [] := fun m => by simp
theorem CS_one (l : LB) : CS 1 l := fun m => by
  cases h : l.drop (m * 1) with
  | nil => simp
  | cons a r => simp
theorem CS.tail {w : Nat} {l : LB} (h : CS w l) : CS w (l.drop w) := fun m => by
  rw [List.drop_drop, show w + m * w = (m + 1) * w by rw [Nat.add_mul, Nat.one_mul]; omega]
  exact h (m + 1)
theorem CS.head {w : Nat} {l : LB} (h : CS w l) : (l.take w).Pairwise (fun a b => leB a b = true) := by simpa using h 0
theorem CS_cons {w : Nat} {l : LB} (h1 : (l.take w).Pairwise (fun a b => leB a b = true)) (h2 : CS w (l.drop w)) : CS w l := by
  intro m
  cases m with
  | zero => simpa using h1
  | succ m =>
    have := h2 m
    rw [List.drop_drop, show w + m * w = (m + 1) * w by rw [Nat.add_mul, Nat.one_mul]; omega] at this
    exact this
theorem mg_sorted {w : Nat} {l : LB} (h : CS w l) : (mg l w).Pairwise (fun a b => leB a b = true) :=
  List.pairwise_merge leB_trans leB_total _ _ h.head h.tail.head
theorem pass_CS : ∀ (f w : Nat) (l : LB), l.length ≤ f → 0 < w → CS w l → CS (2 * w) (pass f w l)
  | 0, w, l, h, _, _ => by
    have e : l = [] := List.eq_nil_of_length_eq_zero (by omega)
    rw [e, pass_nil]
    exact CS_nil _
  | f + 1, w, l, h, hw, hc => by
    unfold pass
    split
    · exact CS_nil _
    · next h0 =>
      have hl : 0 < l.length := List.length_pos_iff.2 h0
      have ih := pass_CS f w (l.drop (2 * w)) (by rw [List.length_drop]; omega) hw (by rw [show 2 * w = w + w by omega, ← List.drop_drop]; exact hc.tail.tail)
      have hm := mg_length l w
      by_cases hle : 2 * w ≤ l.length
      · refine CS_cons ?_ ?_
        · rw [List.take_left' (by omega)]
          exact mg_sorted hc
        · rw [List.drop_left' (by omega)]
          exact ih
      · rw [List.drop_eq_nil_of_le (by omega), pass_nil, List.append_nil]
        refine CS_cons ?_ ?_
        · rw [List.take_of_length_le (by omega)]
          exact mg_sorted hc
        · rw [List.drop_eq_nil_of_le (by omega)]
          exact CS_nil _

/-- At last: sorted. -/
theorem sorted_eq {xs A : LB} {w : Nat} (hp : A.Perm xs) (hc : CS w A) (hw : A.length ≤ w) : A = xs.mergeSort leB := by
  have hs := hc.head
  rw [List.take_of_length_le hw] at hs
  exact List.Perm.eq_of_pairwise (le := fun a b => leB a b = true) (fun a b _ _ h1 h2 => leB_anti h1 h2) hs (List.pairwise_mergeSort leB_trans leB_total _) (hp.trans (List.mergeSort_perm _ _).symm)

/-! ### The merging loop -/
/-- What is still to be merged: a's rows from i up to mid and from j up to hi. -/
def rest (A : LB) (i mid j hi : Nat) : LB := List.merge ((A.take mid).drop i) ((A.take hi).drop j) leB
theorem cut_cons {A : LB} {i m : Nat} {x : List UInt8} (h : A[i]? = some x) (him : i < m) : (A.take m).drop i = x :: (A.take m).drop (i + 1) := by
  obtain ⟨hi, rfl⟩ := List.getElem?_eq_some_iff.1 h
  rw [List.drop_eq_getElem_cons (by rw [List.length_take]; omega), List.getElem_take]
theorem cut_nil {A : LB} {i m : Nat} (h : m ≤ i) : (A.take m).drop i = [] := List.drop_eq_nil_of_le (by rw [List.length_take]; omega)
theorem rest_left {A : LB} {i mid j hi : Nat} {x : List UInt8} (hx : A[i]? = some x) (hi1 : i < mid) (h : hi ≤ j ∨ ∃ y, A[j]? = some y ∧ j < hi ∧ leB x y = true) : rest A i mid j hi = x :: rest A (i + 1) mid j hi := by
  unfold rest
  rw [cut_cons hx hi1]
  rcases h with h | ⟨y, hy, hj, hle⟩
  · rw [cut_nil h, List.merge_right, List.merge_right]
  · rw [cut_cons hy hj, List.cons_merge_cons, if_pos hle]
theorem rest_right {A : LB} {i mid j hi : Nat} {y : List UInt8} (hy : A[j]? = some y) (hj : j < hi) (h : mid ≤ i ∨ ∃ x, A[i]? = some x ∧ i < mid ∧ leB x y = false) : rest A i mid j hi = y :: rest A i mid (j + 1) hi := by
  unfold rest
  rw [cut_cons hy hj]
  rcases h with h | ⟨x, hx, hi1, hle⟩
  · rw [cut_nil h, List.nil_merge, List.nil_merge]
  · rw [cut_cons hx hi1, List.cons_merge_cons, if_neg (by rw [hle]; decide)]
theorem rest_end {A : LB} {i mid j hi : Nat} (h1 : mid ≤ i) (h2 : hi ≤ j) : rest A i mid j hi = [] := by
  unfold rest
  rw [cut_nil h1, cut_nil h2, List.nil_merge]
theorem rest_start {A : LB} {lo w : Nat} (hlo : lo ≤ A.length) : rest A lo (min (lo + w) A.length) (min (lo + w) A.length) (min (lo + 2 * w) A.length) = mg (A.drop lo) w := by
  unfold rest mg
  have e1 : (A.take (min (lo + w) A.length)).drop lo = (A.drop lo).take w := by
    rw [List.drop_take]
    by_cases h : lo + w ≤ A.length
    · rw [Nat.min_eq_left h, show lo + w - lo = w by omega]
    · rw [Nat.min_eq_right (by omega), List.take_of_length_le (by rw [List.length_drop]; exact Nat.le_refl _), List.take_of_length_le (by rw [List.length_drop]; omega)]
  have e2 : (A.take (min (lo + 2 * w) A.length)).drop (min (lo + w) A.length) = ((A.drop lo).drop w).take w := by
    rw [List.drop_take, List.drop_drop]
    by_cases h : lo + w ≤ A.length
    · rw [Nat.min_eq_left h]
      by_cases h2 : lo + 2 * w ≤ A.length
      · rw [Nat.min_eq_left h2, show lo + 2 * w - (lo + w) = w by omega]
      · rw [Nat.min_eq_right (by omega), List.take_of_length_le (by rw [List.length_drop]; exact Nat.le_refl _), List.take_of_length_le (by rw [List.length_drop]; omega)]
    · rw [Nat.min_eq_right (by omega), Nat.min_eq_right (by omega), List.drop_eq_nil_of_le (Nat.le_refl _), List.drop_eq_nil_of_le (by omega)]
      simp
  rw [e1, e2]
/-- A row written at k. -/
theorem take_set {B : LB} {k : Nat} (hk : k < B.length) (x : List UInt8) : (B.set k x).take (k + 1) = B.take k ++ [x] := by
  rw [List.take_set, List.take_succ_eq_append_getElem hk, List.set_append_right _ _ (by rw [List.length_take]; omega), List.length_take, Nat.min_eq_left (by omega)]
  simp
/-- One more piece of a pass. -/
theorem pass_step {f w : Nat} {l : LB} (h : l ≠ []) : pass (f + 1) w l = mg l w ++ pass f w (l.drop (2 * w)) := by rw [pass, if_neg h]
theorem ddup_next {A : LB} {k : Nat} {x : List UInt8} (h : A[k]? = some x) : ddup (A.take (k + 1)) = if (0 < k ∧ A[k - 1]? = some x) then ddup (A.take k) else ddup (A.take k) ++ [x] := by
  obtain ⟨hk, rfl⟩ := List.getElem?_eq_some_iff.1 h
  rw [List.take_succ_eq_append_getElem hk, ddup_snoc, ddup_last _ _ rfl]
  by_cases h0 : k = 0
  · subst h0; simp
  · have e : (A.take k).getLast? = A[k - 1]? := by
      rw [List.getLast?_eq_getElem?, List.length_take, Nat.min_eq_left (by omega), List.getElem?_take_of_lt (by omega)]
    rw [e]
    simp [show 0 < k by omega]
theorem ddup_len : ∀ (n : Nat) (l : LB), l.length = n → (ddup l).length ≤ n
  | 0, l, h => by rw [List.eq_nil_of_length_eq_zero h]; exact Nat.le_refl _
  | n + 1, l, h => by
    obtain ⟨r, x, rfl⟩ : ∃ r x, l = r ++ [x] := ⟨l.dropLast, l.getLast (by intro e; rw [e] at h; cases h), (List.dropLast_concat_getLast _).symm⟩
    have ih := ddup_len n r (by simpa using h)
    rw [ddup_snoc]
    split
    · omega
    · rw [List.length_append, List.length_singleton]; omega
theorem getD_get {A : LB} {i : Nat} (h : i < A.length) : A[i]? = some (A.getD i []) := by
  rw [List.getD_eq_getElem?_getD, List.getElem?_eq_getElem h]
  rfl

end Go.Proofs.YtpjpdeecpobmlaaFmt
