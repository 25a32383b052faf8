/-
  Being inside a node_modules folder: what cutting at the last separator, turning backslashes and one more slash ahead leave; no program in sight (no conditions).
-/
import Derived.Test.YtbegkbpkigbpeaaDoorLast
import Derived.Test.YtbegkbpkigbpeaaDoorUrl
namespace Go.Proofs.YtbegkbpkigbpeaaDoor

def NM : List UInt8 := [110, 111, 100, 101, 95, 109, 111, 100, 117, 108, 101, 115]
theorem nm_plain : ∀ b ∈ NM, sepB b = false := by decide
theorem nm_len : NM.length = 12 := rfl
def Ins (l : List UInt8) : Prop := ∃ a s b, l = a ++ s :: (NM ++ b) ∧ sepB s = true ∧ (b = [] ∨ ∃ t r, b = t :: r ∧ sepB t = true)

theorem at_mid (a : List UInt8) (s : UInt8) (r : List UInt8) : (a ++ s :: r)[a.length]? = some s := by simp
theorem ins_none {l : List UInt8} (h : NoSepFrom l 0) : ¬ Ins l := by
  rintro ⟨a, s, b, rfl, hs, _⟩
  have := h a.length s (Nat.zero_le _) (at_mid a s _)
  rw [hs] at this
  cases this
theorem split_at {l : List UInt8} {k : Nat} {c : UInt8} (hc : l[k]? = some c) : l = l.take k ++ c :: l.drop (k + 1) := by
  obtain ⟨hk, he⟩ := List.getElem?_eq_some_iff.1 hc
  rw [← he, ← List.drop_eq_getElem_cons hk, List.take_append_drop]
theorem ins_base {l : List UInt8} {k : Nat} {c : UInt8} (hc : l[k]? = some c) (hs : sepB c = true) (h : l.drop (k + 1) = NM) : Ins l := by
  refine ⟨l.take k, c, [], ?_, hs, .inl rfl⟩
  rw [List.append_nil, ← h]
  exact split_at hc
theorem ins_cut {l : List UInt8} {k : Nat} {c : UInt8} (hc : l[k]? = some c) (hs : sepB c = true) (hno : NoSepFrom l (k + 1)) (h : l.drop (k + 1) ≠ NM) : Ins (l.take k) ↔ Ins l := by
  constructor
  · rintro ⟨a, s, b, he, hss, hb⟩
    refine ⟨a, s, b ++ c :: l.drop (k + 1), ?_, hss, .inr ?_⟩
    · have := split_at hc
      rw [he] at this
      refine this.trans ?_
      simp
    · rcases hb with rfl | ⟨t, r, rfl, ht⟩
      · exact ⟨c, _, rfl, hs⟩
      · exact ⟨t, _, rfl, ht⟩
  · rintro ⟨a, s, b, he, hss, hb⟩
    have hp : a.length ≤ k := by
      rcases Nat.lt_or_ge k a.length with hlt | hge
      · have := hno a.length s hlt (by rw [he]; exact at_mid a s _)
        rw [hss] at this
        cases this
      · exact hge
    rcases hb with rfl | ⟨t, r, rfl, ht⟩
    · exfalso
      rw [List.append_nil] at he
      by_cases hk : k = a.length
      · apply h
        rw [he, hk]
        simp
      · have hm : sepB c = false := by
          rw [he, List.getElem?_append_right hp, show k - a.length = (k - a.length - 1) + 1 by omega, List.getElem?_cons_succ] at hc
          exact nm_plain c (List.mem_of_getElem? hc)
        rw [hs] at hm
        cases hm
    · have ht13 : l[a.length + 13]? = some t := by
        rw [he, List.getElem?_append_right (by omega), show a.length + 13 - a.length = 12 + 1 by omega, List.getElem?_cons_succ, List.getElem?_append_right (by rw [nm_len]; exact Nat.le_refl _), nm_len]
        rfl
      have hk13 : a.length + 13 ≤ k := by
        rcases Nat.lt_or_ge k (a.length + 13) with hlt | hge
        · have := hno (a.length + 13) t hlt ht13
          rw [ht] at this
          cases this
        · exact hge
      refine ⟨a, s, (t :: r).take (k - a.length - 13), ?_, hss, ?_⟩
      · rw [he, List.take_append, List.take_of_length_le hp, show k - a.length = (k - a.length - 13) + 12 + 1 by omega, List.take_succ_cons, List.take_append, nm_len, List.take_of_length_le (by rw [nm_len]; omega)]
        congr 4
      · rcases Nat.eq_zero_or_pos (k - a.length - 13) with h0 | h0
        · rw [h0]
          exact .inl rfl
        · obtain ⟨m, hm⟩ : ∃ m, k - a.length - 13 = m + 1 := ⟨k - a.length - 13 - 1, by omega⟩
          rw [hm]
          exact .inr ⟨t, r.take m, rfl, ht⟩

theorem sep_turn (b : UInt8) : sepB (if b = 92 then 47 else b) = sepB b := by
  by_cases h : b = 92
  · subst h
    rfl
  · rw [if_neg h]
theorem slashed_cons (b : UInt8) (r : List UInt8) : slashed (b :: r) = (if b = 92 then 47 else b) :: slashed r := rfl
theorem slashed_append (a b : List UInt8) : slashed (a ++ b) = slashed a ++ slashed b := by simp [slashed]
theorem slashed_plain : ∀ (q m : List UInt8), (∀ y ∈ q, sepB y = false) → slashed m = q → m = q
  | [], [], _, _ => rfl
  | [], x :: m, _, h => by simp [slashed] at h
  | y :: q, [], _, h => by simp [slashed] at h
  | y :: q, x :: m, hq, h => by
    rw [slashed_cons] at h
    injection h with h1 h2
    rw [slashed_plain q m (fun z hz => hq z (List.mem_cons_of_mem _ hz)) h2]
    have hy := hq y List.mem_cons_self
    by_cases hx : x = 92
    · rw [if_pos hx] at h1
      subst h1
      cases hy
    · rw [if_neg hx] at h1
      rw [h1]
theorem ins_slashed (l : List UInt8) : Ins (slashed l) ↔ Ins l := by
  constructor
  · rintro ⟨a, s, b, he, hss, hb⟩
    obtain ⟨l1, l2, rfl, h1, h2⟩ := List.map_eq_append_iff.1 he
    obtain ⟨x, l3, rfl, h3, h4⟩ := List.map_eq_cons_iff.1 h2
    obtain ⟨l4, l5, rfl, h5, h6⟩ := List.map_eq_append_iff.1 h4
    obtain rfl := slashed_plain NM l4 nm_plain h5
    refine ⟨l1, x, l5, rfl, by rw [← sep_turn, h3]; exact hss, ?_⟩
    rcases hb with rfl | ⟨t, r, rfl, ht⟩
    · exact .inl (List.map_eq_nil_iff.1 h6)
    · obtain ⟨y, l6, rfl, h7, h8⟩ := List.map_eq_cons_iff.1 h6
      exact .inr ⟨y, l6, rfl, by rw [← sep_turn, h7]; exact ht⟩
  · rintro ⟨a, s, b, rfl, hss, hb⟩
    refine ⟨slashed a, _, slashed b, by rw [slashed_append, slashed_cons, slashed_append]; rfl, (sep_turn s).trans hss, ?_⟩
    rcases hb with rfl | ⟨t, r, rfl, ht⟩
    · exact .inl rfl
    · exact .inr ⟨_, _, slashed_cons t r, (sep_turn t).trans ht⟩
theorem ins_cons {l : List UInt8} (h : ∀ b, l.head? = some b → sepB b = true) : Ins (47 :: l) ↔ Ins l := by
  constructor
  · rintro ⟨a, s, b, he, hss, hb⟩
    cases a with
    | nil =>
      exfalso
      rw [List.nil_append] at he
      injection he with h1 h2
      have := h 110 (by rw [h2]; rfl)
      cases this
    | cons x a =>
      rw [List.cons_append] at he
      injection he with h1 h2
      exact ⟨a, s, b, h2, hss, hb⟩
  · rintro ⟨a, s, b, rfl, hss, hb⟩
    exact ⟨47 :: a, s, b, rfl, hss, hb⟩
/-- The URL's path lies inside exactly when slash and the file path do. -/
theorem ins_upath (l : List UInt8) : Ins (upath l) ↔ Ins (47 :: l) := by
  unfold upath
  split
  · rename_i hh
    rw [ins_slashed, ins_cons]
    intro b hb
    cases l with
    | nil => cases hb
    | cons x r =>
      obtain rfl : x = b := Option.some.inj hb
      rw [slashed_cons] at hh
      have h1 := Option.some.inj hh
      rw [← sep_turn, h1]
      rfl
  · have : (47 : UInt8) :: slashed l = slashed (47 :: l) := rfl
    rw [this, ins_slashed]

end Go.Proofs.YtbegkbpkigbpeaaDoor
