/-
  The plain laws of an indented comment: the escaped text laid out with spaces behind each newline; no program in sight (conditions: those that each lemma names).
-/
import Derived.Test.YtalnapcphdmjaaaDoorEsc
namespace Go.Proofs.YtalnapcphdmjaaaDoor
open Go.RowKit

/-- "/style". -/
def styleTag : List UInt8 := [47, 115, 116, 121, 108, 101]

/-- Behind each newline 2k spaces. -/
def lay (k : Nat) : List UInt8 → List UInt8
  | [] => []
  | c :: r => c :: (if c = 10 then List.replicate (2 * k) 32 ++ lay k r else lay k r)
theorem lay_cons (k : Nat) (c : UInt8) (r : List UInt8) : lay k (c :: r) = c :: (if c = 10 then List.replicate (2 * k) 32 ++ lay k r else lay k r) := rfl
theorem lay_zero : ∀ l : List UInt8, lay 0 l = l
  | [] => rfl
  | c :: r => by unfold lay; rw [lay_zero r]; simp
theorem lay_append (k : Nat) : ∀ a b : List UInt8, lay k (a ++ b) = lay k a ++ lay k b
  | [], b => rfl
  | c :: r, b => by
    rw [List.cons_append, lay_cons, lay_cons, lay_append k r b]
    split
    · rw [List.cons_append, List.append_assoc]
    · rfl
theorem lay_plain (k : Nat) : ∀ a : List UInt8, (10 : UInt8) ∉ a → lay k a = a
  | [], _ => rfl
  | c :: r, h => by
    have hc : c ≠ 10 := fun e => h (by rw [e]; exact List.mem_cons_self)
    unfold lay
    rw [if_neg hc, lay_plain k r (fun e => h (List.mem_cons_of_mem _ e))]
/-- One line. -/
theorem lay_line (k : Nat) (a b : List UInt8) (h : (10 : UInt8) ∉ a) : lay k (a ++ 10 :: b) = a ++ [10] ++ List.replicate (2 * k) 32 ++ lay k b := by
  rw [lay_append, lay_plain k a h]
  show a ++ (10 :: (if (10 : UInt8) = 10 then List.replicate (2 * k) 32 ++ lay k b else lay k b)) = _
  rw [if_pos rfl]
  simp
def newlines : List UInt8 → Nat
  | [] => 0
  | c :: r => (if c = 10 then 1 else 0) + newlines r
theorem newlines_cons (c : UInt8) (r : List UInt8) : newlines (c :: r) = (if c = 10 then 1 else 0) + newlines r := rfl
theorem newlines_take (s : List UInt8) (n : Nat) (h : n < s.length) : newlines (s.take (n + 1)) = newlines (s.take n) + (if s[n] = 10 then 1 else 0) := by
  induction s generalizing n with
  | nil => simp at h
  | cons c r ih =>
    cases n with
    | zero => simp [newlines]
    | succ m =>
      have hm : m < r.length := by simpa using h
      rw [List.take_succ_cons, List.take_succ_cons]
      unfold newlines
      rw [ih m hm]
      simp [Nat.add_assoc]
theorem lay_length (k : Nat) : ∀ l : List UInt8, (lay k l).length = l.length + newlines l * (2 * k)
  | [] => by simp [lay, newlines]
  | c :: r => by
    have ih := lay_length k r
    unfold lay newlines
    split
    · rw [List.length_cons, List.length_append, List.length_replicate, ih, List.length_cons, Nat.add_mul, Nat.one_mul]; omega
    · rw [List.length_cons, ih, List.length_cons, Nat.zero_add]; omega
theorem newlines_append : ∀ a b : List UInt8, newlines (a ++ b) = newlines a + newlines b
  | [], b => by simp [newlines]
  | c :: r, b => by
    rw [List.cons_append, newlines_cons, newlines_cons, newlines_append r b, Nat.add_assoc]
/-- Escaping lays in no newline. -/
theorem newlines_esc (tag : List UInt8) : ∀ t : List UInt8, newlines (esc tag t) = newlines t
  | [] => rfl
  | c :: r => by
    rw [esc_cons, newlines_cons, newlines_cons]
    by_cases hh : hit tag c r = true
    · rw [if_pos hh, newlines_cons, if_neg (show ¬ (92 : UInt8) = 10 by decide), Nat.zero_add, newlines_esc tag r]
    · rw [if_neg hh, newlines_esc tag r]

/-! ### No closing tag -/
def clean (tag : List UInt8) : List UInt8 → Bool
  | [] => true
  | c :: r => !hit tag c r && clean tag r
theorem clean_of_fix (tag : List UInt8) : ∀ t : List UInt8, esc tag t = t → clean tag t = true
  | [], _ => rfl
  | c :: r, h => by
    have h0 := esc_fix tag (c :: r) h 0 c rfl
    have h0' : hit tag c r = false := h0
    have hr : esc tag r = r := by
      rw [esc_cons, h0', if_neg (by decide)] at h
      injection h
    unfold clean
    rw [h0', clean_of_fix tag r hr]
    rfl
theorem low_ten (b y : UInt8) (hy : lowN y ≠ 10) (h : lowN b = lowN y) : b ≠ 10 := fun e => hy (by rw [← h, e]; decide)
theorem fold_lay (k : Nat) : ∀ (tag r : List UInt8), (∀ y ∈ tag, lowN y ≠ 10) → foldPre (lay k r) tag = true → foldPre r tag = true
  | [], _, _, _ => by unfold foldPre; rfl
  | y :: t, [], _, h => h
  | y :: t, c :: r, hn, h => by
    unfold lay foldPre at h
    rw [Bool.and_eq_true] at h
    have hc : c ≠ 10 := low_ten c y (hn y List.mem_cons_self) (of_decide_eq_true h.1)
    have h2 := h.2
    rw [if_neg hc] at h2
    unfold foldPre
    rw [h.1, fold_lay k t r (fun z hz => hn z (List.mem_cons_of_mem _ hz)) h2]
    rfl
theorem clean_spaces (tag : List UInt8) (l : List UInt8) (h : clean tag l = true) : ∀ n : Nat, clean tag (List.replicate n 32 ++ l) = true
  | 0 => h
  | n + 1 => by
    rw [List.replicate_succ, List.cons_append]
    unfold clean
    rw [clean_spaces tag l h n]
    have : hit tag 32 (List.replicate n 32 ++ l) = false := by unfold hit; simp
    rw [this]
    rfl
theorem clean_lay (tag : List UInt8) (k : Nat) (hn : ∀ y ∈ tag, lowN y ≠ 10) : ∀ l : List UInt8, clean tag l = true → clean tag (lay k l) = true
  | [], _ => rfl
  | c :: r, h => by
    unfold clean at h
    rw [Bool.and_eq_true] at h
    have ih := clean_lay tag k hn r h.2
    unfold lay
    split
    · rename_i hc
      unfold clean
      rw [clean_spaces tag _ ih]
      have : hit tag c (List.replicate (2 * k) 32 ++ lay k r) = false := by unfold hit; rw [hc]; simp
      rw [this]
      rfl
    · rename_i hc
      unfold clean
      rw [ih, Bool.and_true]
      have h0 : hit tag c r = false := by simpa using h.1
      cases hh : hit tag c (lay k r) with
      | false => rfl
      | true =>
        exfalso
        unfold hit at hh h0
        rw [Bool.and_eq_true, Bool.and_eq_true] at hh
        have hhead : r.head? = some 47 := by
          have e := of_decide_eq_true hh.1.2
          cases r with
          | nil => exact e
          | cons d q => exact e
        rw [hh.1.1, decide_eq_true hhead, fold_lay k tag r hn hh.2] at h0
        cases h0
theorem style_no10 : ∀ y ∈ styleTag, lowN y ≠ 10 := by decide
theorem style_no92 : (92 : UInt8) ∉ styleTag := by decide
/-- What is printed of an escaped comment holds no closing style tag. -/
theorem clean_all (k : Nat) (t : List UInt8) : clean styleTag (lay k (esc styleTag t)) = true :=
  clean_lay styleTag k style_no10 _ (clean_of_fix _ _ (esc_twice styleTag style_no92 t))

/-- The test of seven bytes at a place. -/
def closes (s : ByteArray) (i : Nat) : Bool := if h : i + 7 ≤ s.size then decide (s[i] = 60) && (decide (s[i + 1] = 47) && (decide (lowN s[i + 2] = 115) && (decide (lowN s[i + 3] = 116) && (decide (lowN s[i + 4] = 121) && (decide (lowN s[i + 5] = 108) && decide (lowN s[i + 6] = 101)))))) else false
theorem low47 (b : UInt8) (h : lowN b = 47) : b = 47 := by
  unfold lowN at h
  split at h
  · rename_i hr
    have := congrArg UInt8.toNat h
    rw [UInt8.toNat_add, show (32 : UInt8).toNat = 32 from rfl, show (47 : UInt8).toNat = 47 from rfl] at this
    omega
  · exact h
theorem closes_hit (s : ByteArray) (i : Nat) (h : i < s.size) : hit styleTag s[i] (s.data.toList.drop (i + 1)) = closes s i := by
  have hd : ∀ (j : Nat) (hj : j < s.size), s.data.toList.drop j = s[j] :: s.data.toList.drop (j + 1) := by
    intro j hj
    have h' : j < s.data.toList.length := by rw [← Lib.size_eq]; exact hj
    rw [List.drop_eq_getElem_cons h']
    rfl
  unfold closes
  split
  · rename_i hl
    rw [hd (i + 1) (by omega), hd (i + 2) (by omega), hd (i + 3) (by omega), hd (i + 4) (by omega), hd (i + 5) (by omega), hd (i + 6) (by omega)]
    unfold hit styleTag
    simp only [foldPre, List.head?_cons, Option.some.injEq, Bool.and_true]
    rw [show lowN 47 = 47 from rfl, show lowN 115 = 115 from rfl, show lowN 116 = 116 from rfl, show lowN 121 = 121 from rfl, show lowN 108 = 108 from rfl, show lowN 101 = 101 from rfl]
    have e : (decide (s[i + 1] = 47) && decide (lowN s[i + 1] = 47)) = decide (s[i + 1] = 47) := by
      by_cases hc : s[i + 1] = 47
      · rw [hc]; rfl
      · rw [decide_eq_false hc, Bool.false_and]
    rw [Bool.and_assoc, ← Bool.and_assoc (decide (s[i + 1] = 47)), e]
  · rename_i hl
    unfold hit
    rw [foldPre_short _ _ (by rw [List.length_drop, ← Lib.size_eq]; show _ < 6; omega), Bool.and_false]

end Go.Proofs.YtalnapcphdmjaaaDoor
