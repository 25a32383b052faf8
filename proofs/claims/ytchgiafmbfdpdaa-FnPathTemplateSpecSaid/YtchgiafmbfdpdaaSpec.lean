/-
  What the parts of a template promise, in plain Lean; no program in sight (conditions: those that each lemma names).
-/
import Derived.Test.YtchgiafmbfdpdaaPlain
namespace Go.Proofs.Ytchgiafmbfdpdaa

def noTok (l : List UInt8) : Prop := ∀ j, tokAt (l.drop j) = none
def render (ps : List (List UInt8 × Nat)) : List UInt8 := ps.flatMap fun x => x.1 ++ tok x.2

theorem tokAt_head {l : List UInt8} {p : Nat} (h : tokAt l = some p) : l.head? = some 91 := by
  obtain ⟨hp, r, rfl⟩ := tokAt_some h
  obtain rfl | rfl | rfl | rfl : p = 1 ∨ p = 2 ∨ p = 3 ∨ p = 4 := by omega
  all_goals rfl

theorem tokAt_nil : tokAt [] = none := by decide

theorem pre_false {t a b : List UInt8} (hab : a <+: b) (h : ¬ t.isPrefixOf b = true) : ¬ t.isPrefixOf a = true := by
  intro ht
  exact h (List.isPrefixOf_iff_prefix.2 ((List.isPrefixOf_iff_prefix.1 ht).trans hab))

theorem tokAt_prefix {a b : List UInt8} (hab : a <+: b) (h : tokAt b = none) : tokAt a = none := by
  unfold tokAt at h
  split at h
  · cases h
  · rename_i h1
    split at h
    · cases h
    · rename_i h2
      split at h
      · cases h
      · rename_i h3
        split at h
        · cases h
        · rename_i h4
          unfold tokAt
          rw [if_neg (pre_false hab h1), if_neg (pre_false hab h2), if_neg (pre_false hab h3), if_neg (pre_false hab h4)]

theorem noTok_take {tpl : List UInt8} {j : Nat} (h : ∀ i, i < j → tokAt (tpl.drop i) = none) : noTok (tpl.take j) := by
  intro i
  by_cases hi : i < j
  · refine tokAt_prefix ?_ (h i hi)
    rw [List.drop_take]
    exact List.take_prefix _ _
  · rw [List.drop_eq_nil_of_le (by rw [List.length_take]; omega)]
    exact tokAt_nil

theorem noTok_all {tpl : List UInt8} (h : ∀ i, i < tpl.length → tokAt (tpl.drop i) = none) : noTok tpl := by
  intro i
  by_cases hi : i < tpl.length
  · exact h i hi
  · rw [List.drop_eq_nil_of_le (by omega)]
    exact tokAt_nil

theorem drop_more {tpl a r : List UInt8} {s i : Nat} (h : tpl.drop s = a ++ r) (hi : s ≤ i) (hj : i < s + a.length) : (tpl.drop i).head? = a[i - s]? := by
  have e : tpl.drop i = (tpl.drop s).drop (i - s) := by rw [List.drop_drop]; congr 1; omega
  rw [e, h, List.head?_drop, List.getElem?_append_left (by omega)]

theorem gap {tpl a r : List UInt8} {s : Nat} (h : tpl.drop s = a ++ r) (ha : (91 : UInt8) ∉ a) (i : Nat) (hi : s ≤ i) (hj : i < s + a.length) : tokAt (tpl.drop i) = none := by
  cases ht : tokAt (tpl.drop i) with
  | none => rfl
  | some p =>
    have h1 := tokAt_head ht
    rw [drop_more h hi hj] at h1
    exact absurd (List.mem_of_getElem? h1) ha

def Good (tpl : List UInt8) (ps : List (List UInt8 × Nat)) : Prop :=
  ∃ rest, render ps ++ rest = tpl ∧ noTok rest ∧ (∀ x ∈ ps, noTok x.1 ∧ x.2 ≤ 4) ∧ (∀ i x, ps[i]? = some x → x.2 = 0 → i + 1 = ps.length ∧ x.1 ≠ []) ∧
    (tpl.getLast? = some 91 → rest ≠ [] ∧ ∀ x, ps.getLast? = some x → x.2 ≠ 0) ∧ (tpl.getLast? ≠ some 91 → rest = [])

theorem getLast_drop {tpl : List UInt8} {j : Nat} (h : j < tpl.length) : (tpl.drop j).getLast? = tpl.getLast? := by
  rw [List.getLast?_drop, if_neg (by omega)]

theorem tok_last {p : Nat} (h : 1 ≤ p ∧ p ≤ 4) : (tok p).getLast? = some 93 := by
  obtain rfl | rfl | rfl | rfl : p = 1 ∨ p = 2 ∨ p = 3 ∨ p = 4 := by omega
  all_goals rfl

theorem split_good : ∀ (n : Nat) (tpl : List UInt8) (s : Nat), tpl.length - s ≤ n → s ≤ tpl.length → (∀ j, j < s → tokAt (tpl.drop j) = none) → (s = tpl.length → tpl ≠ [] → tpl.getLast? = some 91) → Good tpl (split n tpl s)
  | n, tpl, s, hn, hs, hno, hend => by
    by_cases hlt : s < tpl.length
    · rcases index_spec 91 (tpl.drop s) with ⟨hi, hnot⟩ | ⟨a, b, hab, hna, hi⟩
      · rw [split_none hlt hi]
        have hall : noTok tpl := noTok_all fun i hil => by
          by_cases h : i < s
          · exact hno i h
          · exact gap (r := []) (by rw [List.append_nil]) hnot i (by omega) (by rw [List.length_drop]; omega)
        refine ⟨[], by simp [render, tok], fun j => by rw [List.drop_nil]; exact tokAt_nil, ?_, ?_, ?_, fun _ => rfl⟩
        · intro x hx
          rw [List.mem_singleton] at hx
          subst hx
          exact ⟨hall, Nat.zero_le _⟩
        · intro i x hx _
          cases i with
          | zero =>
            simp at hx
            subst hx
            refine ⟨rfl, ?_⟩
            intro e
            simp at e
            subst e
            simp at hlt
          | succ i => simp at hx
        · intro hl
          exfalso
          rw [← getLast_drop hlt] at hl
          exact hnot (List.mem_of_getLast? hl)
      · have hj : s + a.length < tpl.length := by
          have := congrArg List.length hab
          rw [List.length_drop, List.length_append, List.length_cons] at this
          omega
        have hgap : ∀ i, i < s + a.length → tokAt (tpl.drop i) = none := fun i h => by
          by_cases h' : i < s
          · exact hno i h'
          · exact gap hab hna i (by omega) h
        cases ht : tokAt (tpl.drop (s + a.length)) with
        | none =>
          rw [split_skip hlt hn hi ht]
          match n, hn with
          | 0, hn => omega
          | n + 1, hn =>
            rw [split_fuel (n + 1) n _ _ (by omega) (by omega)]
            refine split_good n tpl (s + a.length + 1) (by omega) (by omega) ?_ ?_
            · intro i h
              by_cases h' : i < s + a.length
              · exact hgap i h'
              · have : i = s + a.length := by omega
                rw [this]
                exact ht
            · intro he _
              have e2 : tpl.drop (s + a.length) = 91 :: b := by
                have : tpl.drop (s + a.length) = (tpl.drop s).drop a.length := by rw [List.drop_drop]
                rw [this, hab]
                simp
              have hb : b = [] := by
                have := congrArg List.length e2
                rw [List.length_drop, List.length_cons] at this
                exact List.eq_nil_of_length_eq_zero (by omega)
              rw [← getLast_drop hj, e2, hb]
              rfl
        | some p =>
          obtain ⟨hp, r, hr⟩ := tokAt_some ht
          have hpl := tok_len hp
          rw [split_tok hlt hn hi ht]
          have hdr : tpl.drop (s + a.length + (tok p).length) = r := by
            have : tpl.drop (s + a.length + (tok p).length) = (tpl.drop (s + a.length)).drop (tok p).length := by rw [List.drop_drop]
            rw [this, hr]
            simp
          rw [hdr]
          have hrl : r.length < tpl.length - s := by
            have := congrArg List.length hr
            rw [List.length_drop, List.length_append] at this
            omega
          have htpl : tpl = tpl.take (s + a.length) ++ (tok p ++ r) := by
            rw [← hr, List.take_append_drop]
          match n, hn with
          | 0, hn => omega
          | n + 1, hn =>
            have ih := split_good n r 0 (by omega) (Nat.zero_le _) (fun j h => absurd h (Nat.not_lt_zero _)) (fun h h' => absurd (List.eq_nil_of_length_eq_zero h.symm) h')
            rw [split_fuel r.length n r 0 (by omega) (by omega)]
            obtain ⟨rest, h1, h2, h3, h4, h5, h6⟩ := ih
            refine ⟨rest, ?_, h2, ?_, ?_, ?_, ?_⟩
            · have e : render ((tpl.take (s + a.length), p) :: split n r 0) = tpl.take (s + a.length) ++ tok p ++ render (split n r 0) := rfl
              rw [e, List.append_assoc, h1, List.append_assoc, ← htpl]
            · intro x hx
              rcases List.mem_cons.1 hx with hx | hx
              · subst hx
                exact ⟨noTok_take hgap, hp.2⟩
              · exact h3 x hx
            · intro i x hx h0
              cases i with
              | zero =>
                simp at hx
                subst hx
                exact absurd h0 (by show ¬ p = 0; omega)
              | succ i =>
                simp at hx
                obtain ⟨e1, e2⟩ := h4 i x hx h0
                exact ⟨by rw [List.length_cons]; omega, e2⟩
            · intro hl
              have hrne : r ≠ [] := by
                rintro rfl
                rw [htpl, List.append_nil, List.getLast?_append, tok_last hp] at hl
                simp at hl
              have hrl2 : r.getLast? = some 91 := by
                rw [← hl, htpl, List.getLast?_append, List.getLast?_append]
                cases hg : r.getLast? with
                | none => exact absurd (List.getLast?_eq_none_iff.1 hg) hrne
                | some y => rfl
              obtain ⟨e1, e2⟩ := h5 hrl2
              refine ⟨e1, fun x hx => ?_⟩
              cases hsp : split n r 0 with
              | nil =>
                rw [hsp] at hx
                simp at hx
                subst hx
                show p ≠ 0
                omega
              | cons y ys =>
                rw [hsp, List.getLast?_cons_cons] at hx
                exact e2 x (by rw [hsp]; exact hx)
            · intro hl
              by_cases hrne : r = []
              · subst hrne
                have : render (split n [] 0) = [] ∧ rest = [] := List.append_eq_nil_iff.1 h1
                exact this.2
              · refine h6 ?_
                intro e
                apply hl
                rw [htpl, List.getLast?_append, List.getLast?_append, e]
                rfl
    · have hse : s = tpl.length := by omega
      rw [split_end (by omega)]
      refine ⟨tpl, rfl, noTok_all (fun i h => hno i (by omega)), fun x hx => by simp at hx, fun i x hx => by simp at hx, ?_, ?_⟩
      · intro hl
        refine ⟨?_, fun x hx => by simp at hx⟩
        rintro rfl
        simp at hl
      · intro hl
        by_cases h : tpl = []
        · exact h
        · exact absurd (hend hse h) hl

theorem parts_good (tpl : List UInt8) (h : tpl ≠ []) : Good tpl (parts tpl) :=
  split_good _ tpl 0 (by omega) (Nat.zero_le _) (fun j h => absurd h (Nat.not_lt_zero _)) (fun e _ => absurd (List.eq_nil_of_length_eq_zero e.symm) h)

end Go.Proofs.Ytchgiafmbfdpdaa
