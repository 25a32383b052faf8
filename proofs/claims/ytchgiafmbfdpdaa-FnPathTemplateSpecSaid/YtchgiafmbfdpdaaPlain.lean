/-
  Path templates in plain Lean: the parts that the scan makes, and what they promise; no program in sight (conditions: those that each lemma names).
-/
import Derived.Lib.Bytealg
import Derived.Lib.Strings
namespace Go.Proofs.Ytchgiafmbfdpdaa

/-- The text of a placeholder. -/
def tok (p : Nat) : List UInt8 :=
  if p = 1 then [91, 100, 105, 114, 93] else if p = 2 then [91, 110, 97, 109, 101, 93] else if p = 3 then [91, 104, 97, 115, 104, 93] else if p = 4 then [91, 101, 120, 116, 93] else []

/-- Which placeholder begins here? -/
def tokAt (l : List UInt8) : Option Nat :=
  if (tok 1).isPrefixOf l then some 1 else if (tok 2).isPrefixOf l then some 2 else if (tok 3).isPrefixOf l then some 3 else if (tok 4).isPrefixOf l then some 4 else none

def tl (tpl : List UInt8) (s : Nat) : List (List UInt8 × Nat) := if s < tpl.length then [(tpl, 0)] else []

/-- The scan, as the loop goes. -/
def split : Nat → List UInt8 → Nat → List (List UInt8 × Nat)
  | 0, tpl, s => tl tpl s
  | n + 1, tpl, s =>
    if s < tpl.length then
      if Lib.indexByte (tpl.drop s) 91 = -1 then tl tpl s
      else match tokAt (tpl.drop (s + (Lib.indexByte (tpl.drop s) 91).toNat)) with
        | some p => (tpl.take (s + (Lib.indexByte (tpl.drop s) 91).toNat), p) :: split n (tpl.drop (s + (Lib.indexByte (tpl.drop s) 91).toNat + (tok p).length)) 0
        | none => split n tpl (s + (Lib.indexByte (tpl.drop s) 91).toNat + 1)
    else tl tpl s

theorem tokAt_some {l : List UInt8} {p : Nat} (h : tokAt l = some p) : (1 ≤ p ∧ p ≤ 4) ∧ ∃ r, l = tok p ++ r := by
  unfold tokAt at h
  repeat' split at h
  all_goals first | (cases h; done) | (cases h; refine ⟨by omega, ?_⟩; rename_i hp; obtain ⟨r, hr⟩ := List.isPrefixOf_iff_prefix.1 hp; exact ⟨r, hr.symm⟩)

theorem tok_len {p : Nat} (h : 1 ≤ p ∧ p ≤ 4) : 5 ≤ (tok p).length ∧ (tok p).length ≤ 6 := by
  obtain rfl | rfl | rfl | rfl : p = 1 ∨ p = 2 ∨ p = 3 ∨ p = 4 := by omega
  all_goals decide

theorem index_spec (c : UInt8) : ∀ l : List UInt8, (Lib.indexByte l c = -1 ∧ c ∉ l) ∨ ∃ a b, l = a ++ c :: b ∧ c ∉ a ∧ Lib.indexByte l c = (a.length : Int)
  | [] => .inl ⟨rfl, by simp⟩
  | x :: r => by
    unfold Lib.indexByte
    by_cases h : x = c
    · subst h
      exact .inr ⟨[], r, rfl, by simp, by simp⟩
    · have ih := index_spec c r
      have hx : (x == c) = false := beq_eq_false_iff_ne.2 h
      rw [if_neg (by simp [hx])]
      rcases ih with ⟨e, hn⟩ | ⟨a, b, e, hn, hi⟩
      · refine .inl ⟨by simp [e], ?_⟩
        intro hm
        rcases List.mem_cons.1 hm with hm | hm
        · exact h hm.symm
        · exact hn hm
      · refine .inr ⟨x :: a, b, by rw [e]; rfl, ?_, ?_⟩
        · intro hm
          rcases List.mem_cons.1 hm with hm | hm
          · exact h hm.symm
          · exact hn hm
        · rw [hi, if_neg (by rw [beq_iff_eq]; omega)]
          simp

theorem split_fuel : ∀ (n m : Nat) (tpl : List UInt8) (s : Nat), tpl.length - s ≤ n → tpl.length - s ≤ m → split n tpl s = split m tpl s
  | 0, 0, _, _, _, _ => rfl
  | 0, m + 1, tpl, s, h, _ => by
    unfold split
    rw [if_neg (by omega)]
  | n + 1, 0, tpl, s, _, h => by
    have e : split 0 tpl s = tl tpl s := rfl
    rw [e]
    unfold split
    rw [if_neg (by omega)]
  | n + 1, m + 1, tpl, s, h1, h2 => by
    unfold split
    by_cases hs : s < tpl.length
    · rw [if_pos hs, if_pos hs]
      by_cases hi : Lib.indexByte (tpl.drop s) 91 = -1
      · rw [if_pos hi, if_pos hi]
      · rw [if_neg hi, if_neg hi]
        cases ht : tokAt (tpl.drop (s + (Lib.indexByte (tpl.drop s) 91).toNat)) with
        | none =>
          show split n _ _ = split m _ _
          exact split_fuel n m _ _ (by omega) (by omega)
        | some p =>
          show (_, p) :: split n _ _ = (_, p) :: split m _ _
          have hp := tok_len (tokAt_some ht).1
          rw [split_fuel n m _ _ (by rw [List.length_drop]; omega) (by rw [List.length_drop]; omega)]
    · rw [if_neg hs, if_neg hs]

/-- The parts of a template (a text that is already slashed and begins with its dot). -/
def parts (tpl : List UInt8) : List (List UInt8 × Nat) := split (tpl.length + 1) tpl 0

theorem split_end {tpl : List UInt8} {s n : Nat} (h : tpl.length ≤ s) : split n tpl s = [] := by
  have e : tl tpl s = [] := by unfold tl; rw [if_neg (by omega)]
  cases n with
  | zero => exact e
  | succ n => unfold split; rw [if_neg (by omega)]; exact e

theorem split_none {tpl : List UInt8} {s n : Nat} (h : s < tpl.length) (hi : Lib.indexByte (tpl.drop s) 91 = -1) : split n tpl s = [(tpl, 0)] := by
  have e : tl tpl s = [(tpl, 0)] := by unfold tl; rw [if_pos h]
  cases n with
  | zero => exact e
  | succ n => unfold split; rw [if_pos h, if_pos hi]; exact e

theorem split_tok {tpl : List UInt8} {s n j p : Nat} (h : s < tpl.length) (hn : tpl.length - s ≤ n) (hi : Lib.indexByte (tpl.drop s) 91 = (j : Int)) (ht : tokAt (tpl.drop (s + j)) = some p) :
    split n tpl s = (tpl.take (s + j), p) :: split (tpl.drop (s + j + (tok p).length)).length (tpl.drop (s + j + (tok p).length)) 0 := by
  have hp := tok_len (tokAt_some ht).1
  cases n with
  | zero => omega
  | succ n =>
    conv => lhs; unfold split
    rw [if_pos h, if_neg (by omega), hi, Int.toNat_natCast, ht]
    show (_, p) :: split n _ _ = _
    rw [split_fuel n (tpl.drop (s + j + (tok p).length)).length _ _ (by rw [List.length_drop]; omega) (by omega)]

theorem split_skip {tpl : List UInt8} {s n j : Nat} (h : s < tpl.length) (hn : tpl.length - s ≤ n) (hi : Lib.indexByte (tpl.drop s) 91 = (j : Int)) (ht : tokAt (tpl.drop (s + j)) = none) :
    split n tpl s = split n tpl (s + j + 1) := by
  cases n with
  | zero => omega
  | succ n =>
    have e : split (n + 1) tpl s = split n tpl (s + j + 1) := by
      conv => lhs; unfold split
      rw [if_pos h, if_neg (by omega), hi, Int.toNat_natCast, ht]
    rw [e, split_fuel n (n + 1) _ _ (by omega) (by omega)]

end Go.Proofs.Ytchgiafmbfdpdaa
