/-
  Plain facts on the metafile's text: a head, the kept chunks joined, a tail; no program in sight (conditions: those that each lemma names).
-/
import Derived.WalkKit
import Derived.Lib.Hide
import Derived.Lib.UnsafeStr
namespace Go.Proofs.YtejdbjfniepomaaFmt
open Go.RowKit

def cells (l : List UInt8) : List Value := Lib.byteCells l

/-- The texts of the writer. -/
def tHead : List UInt8 := [123, 10, 32, 32, 34, 105, 110, 112, 117, 116, 115, 34, 58, 32, 123]
def tFirst : List UInt8 := [10, 32, 32, 32, 32]
def tNext : List UInt8 := [44, 10, 32, 32, 32, 32]
def tMid : List UInt8 := [10, 32, 32, 125, 44, 10, 32, 32, 34, 111, 117, 116, 112, 117, 116, 115, 34, 58, 32, 123]
def tEnd : List UInt8 := [10, 32, 32, 125, 10, 125]
def tLast : List UInt8 := [10]

/-- The kept chunks as they are written: 'first' says whether none has been written yet. -/
def body : Bool → List (List UInt8) → List UInt8
  | _, [] => []
  | true, c :: r => tFirst ++ c ++ body false r
  | false, c :: r => tNext ++ c ++ body false r
def metaText (ks : List (List UInt8)) : List UInt8 := tHead ++ body true ks ++ tMid ++ tEnd ++ tLast

theorem body_snoc (c : List UInt8) : ∀ (f : Bool) (ks : List (List UInt8)), body f (ks ++ [c]) = body f ks ++ (if f && ks.isEmpty then tFirst else tNext) ++ c
  | true, [] => by simp [body]
  | false, [] => by simp [body]
  | true, k :: r => by
    show tFirst ++ k ++ body false (r ++ [c]) = _
    rw [body_snoc c false r]
    simp [body]
  | false, k :: r => by
    show tNext ++ k ++ body false (r ++ [c]) = _
    rw [body_snoc c false r]
    simp [body]

/-- What is kept: the reached ones that are not omitted and not empty. -/
def keepOne (ch : List (List UInt8)) (om : List Bool) (i : Nat) : List (List UInt8) :=
  if om.getD i false then [] else if (ch.getD i []).isEmpty then [] else [ch.getD i []]
def kept (ch : List (List UInt8)) (om : List Bool) (rc : List Nat) : List (List UInt8) := rc.flatMap (keepOne ch om)

theorem kept_take {ch : List (List UInt8)} {om : List Bool} {rc : List Nat} {k : Nat} (h : k < rc.length) : kept ch om (rc.take (k + 1)) = kept ch om (rc.take k) ++ keepOne ch om rc[k] := by
  unfold kept
  rw [List.take_succ_eq_append_getElem h, List.flatMap_append, List.flatMap_cons, List.flatMap_nil, List.append_nil]
theorem kept_nonempty (ch : List (List UInt8)) (om : List Bool) (rc : List Nat) : ∀ x ∈ kept ch om rc, x ≠ [] := by
  intro x hx
  unfold kept at hx
  obtain ⟨i, _, hi⟩ := List.mem_flatMap.1 hx
  unfold keepOne at hi
  split at hi
  · simp at hi
  · split at hi
    · simp at hi
    · rename_i h
      simp at hi
      subst hi
      simpa using h

/-- A list of chunks that are all kept, in order. -/
theorem kept_all (ks : List (List UInt8)) (h : ∀ x ∈ ks, x ≠ []) (om : List Bool) (ho : ∀ b ∈ om, b = false) : ∀ n, n ≤ ks.length → kept ks om (List.range n) = ks.take n
  | 0, _ => rfl
  | n + 1, hn => by
    unfold kept
    rw [List.range_succ, List.flatMap_append]
    have ih := kept_all ks h om ho n (by omega)
    unfold kept at ih
    rw [ih, List.take_succ_eq_append_getElem (by omega : n < ks.length)]
    congr 1
    simp only [List.flatMap_cons, List.flatMap_nil, List.append_nil]
    unfold keepOne
    have h1 : om.getD n false = false := by
      rw [List.getD_eq_getElem?_getD]
      cases e : om[n]? with
      | none => rfl
      | some b => exact ho b (List.mem_of_getElem? e)
    have h2 : ks.getD n [] = ks[n] := by rw [List.getD_eq_getElem?_getD, List.getElem?_eq_getElem (by omega)]; rfl
    rw [h1, h2]
    have h3 : ks[n] ≠ [] := h _ (List.getElem_mem _)
    simp [h3]

/-- Sizes: what the reached chunks unfold into. -/
def unfoldSize (ch : List (List UInt8)) (rc : List Nat) : Nat := (rc.map fun i => (ch.getD i []).length + 8).sum
theorem unfold_take {ch : List (List UInt8)} {rc : List Nat} {k : Nat} (h : k < rc.length) : unfoldSize ch (rc.take (k + 1)) = unfoldSize ch (rc.take k) + ((ch.getD rc[k] []).length + 8) := by
  unfold unfoldSize
  rw [List.take_succ_eq_append_getElem h, List.map_append, List.sum_append, List.map_cons, List.map_nil, List.sum_cons, List.sum_nil, Nat.add_zero]
theorem unfold_mono {ch : List (List UInt8)} {rc : List Nat} (k : Nat) : unfoldSize ch (rc.take k) ≤ unfoldSize ch rc := by
  unfold unfoldSize
  conv => rhs; rw [← List.take_append_drop k rc]
  rw [List.map_append, List.sum_append]
  omega
theorem body_length (ch : List (List UInt8)) (om : List Bool) (f : Bool) : ∀ rc : List Nat, (body f (kept ch om rc)).length ≤ unfoldSize ch rc := by
  intro rc
  induction rc generalizing f with
  | nil => simp [kept, body]
  | cons i r ih =>
    have e : kept ch om (i :: r) = keepOne ch om i ++ kept ch om r := by simp [kept]
    have e2 : unfoldSize ch (i :: r) = ((ch.getD i []).length + 8) + unfoldSize ch r := by simp [unfoldSize]
    rw [e, e2]
    unfold keepOne
    split
    · have := ih f
      simp only [List.nil_append]
      omega
    · split
      · have := ih f
        simp only [List.nil_append]
        omega
      · have h1 := ih false
        cases f
        · simp only [List.cons_append, List.nil_append, body, List.length_append, tNext, List.length_cons]
          omega
        · simp only [List.cons_append, List.nil_append, body, List.length_append, tFirst, List.length_cons]
          omega
def sumLen (ks : List (List UInt8)) : Nat := (ks.map List.length).sum
theorem kept_len (ch : List (List UInt8)) (om : List Bool) : ∀ rc : List Nat, 8 * (kept ch om rc).length + sumLen (kept ch om rc) ≤ unfoldSize ch rc := by
  intro rc
  induction rc with
  | nil => simp [kept, sumLen]
  | cons i r ih =>
    have e : kept ch om (i :: r) = keepOne ch om i ++ kept ch om r := by simp [kept]
    have e2 : unfoldSize ch (i :: r) = ((ch.getD i []).length + 8) + unfoldSize ch r := by simp [unfoldSize]
    rw [e, e2]
    unfold keepOne
    split
    · simp only [List.nil_append]; omega
    · split
      · simp only [List.nil_append]; omega
      · simp only [List.cons_append, List.nil_append, sumLen, List.map_cons, List.sum_cons, List.length_cons] at ih ⊢
        omega

/-- The chunks joined by the separator. -/
def joined (sep : List UInt8) : List (List UInt8) → List UInt8
  | [] => []
  | [c] => c
  | c :: d :: r => c ++ sep ++ joined sep (d :: r)
theorem body_false_cons (ks : List (List UInt8)) : ∀ c, body false (c :: ks) = tNext ++ joined tNext (c :: ks) := by
  induction ks with
  | nil => intro c; simp [body, joined]
  | cons d r ih =>
    intro c
    show tNext ++ c ++ body false (d :: r) = _
    rw [ih d]
    simp [joined]
theorem body_true_cons (c : List UInt8) (ks : List (List UInt8)) : body true (c :: ks) = tFirst ++ joined tNext (c :: ks) := by
  cases ks with
  | nil => simp [body, joined]
  | cons d r =>
    show tFirst ++ c ++ body false (d :: r) = _
    rw [body_false_cons r d]
    simp [joined]
theorem joined_snoc (sep c : List UInt8) : ∀ ks : List (List UInt8), joined sep (ks ++ [c]) = joined sep ks ++ (if ks = [] then [] else sep) ++ c
  | [] => by simp [joined]
  | [k] => by simp [joined]
  | k :: d :: r => by
    have := joined_snoc sep c (d :: r)
    simp only [List.cons_append] at this ⊢
    show k ++ sep ++ joined sep (d :: (r ++ [c])) = _
    rw [this]
    simp [joined]
theorem joined_take {sep : List UInt8} {ks : List (List UInt8)} {k : Nat} (h : k < ks.length) : joined sep (ks.take (k + 1)) = joined sep (ks.take k) ++ (if k = 0 then [] else sep) ++ ks[k] := by
  rw [List.take_succ_eq_append_getElem h, joined_snoc]
  congr 2
  by_cases h0 : k = 0
  · subst h0; simp
  · rw [if_neg h0, if_neg]
    intro e
    have := congrArg List.length e
    rw [List.length_take, List.length_nil] at this
    omega
theorem joined_length (sep : List UInt8) : ∀ ks : List (List UInt8), (joined sep ks).length ≤ sumLen ks + ks.length * sep.length
  | [] => by simp [joined]
  | [k] => by simp [joined, sumLen]
  | k :: d :: r => by
    have := joined_length sep (d :: r)
    simp only [joined, List.length_append, sumLen, List.map_cons, List.sum_cons, List.length_cons, Nat.add_mul, Nat.one_mul] at this ⊢
    omega

def preT : List UInt8 := tHead ++ tFirst
def postT : List UInt8 := tMid ++ tEnd ++ tLast
theorem meta_cons (c : List UInt8) (ks : List (List UInt8)) : metaText (c :: ks) = preT ++ joined tNext (c :: ks) ++ postT := by
  unfold metaText preT postT
  rw [body_true_cons]
  simp

end Go.Proofs.YtejdbjfniepomaaFmt
