/-
  Plain facts on the entity map: replacing byte after byte is one byte map, which holds no sign that it replaces; no program in sight (conditions: none).
-/
import Derived.Test.YtpjpdeecpobmlaaFmtStr
namespace Go.Proofs.YtpjpdeecpobmlaaFmt
open Go.RowKit

/-- One byte's text: the five entities (the quotes' only if q), any other byte itself. -/
def ent (q : Bool) (b : UInt8) : List UInt8 :=
  if b = 38 then [38, 97, 109, 112, 59] else if b = 60 then [38, 108, 116, 59] else if b = 62 then [38, 103, 116, 59]
  else if q = true ∧ b = 34 then [38, 113, 117, 111, 116, 59] else if q = true ∧ b = 39 then [38, 97, 112, 111, 115, 59] else [b]

def esc (q : Bool) (l : List UInt8) : List UInt8 := l.flatMap (ent q)

def rep1 (c : UInt8) (new : List UInt8) (l : List UInt8) : List UInt8 := l.flatMap fun b => if b = c then new else [b]

theorem esc_html (l : List UInt8) : rep1 62 [38, 103, 116, 59] (rep1 60 [38, 108, 116, 59] (rep1 38 [38, 97, 109, 112, 59] l)) = esc false l := by
  unfold rep1 esc
  rw [List.flatMap_assoc, List.flatMap_assoc]
  congr 1
  funext b
  unfold ent
  by_cases h1 : b = 38
  · subst h1; decide
  · by_cases h2 : b = 60
    · subst h2; decide
    · by_cases h3 : b = 62
      · subst h3; decide
      · simp [h1, h2, h3]

theorem esc_attr (l : List UInt8) : rep1 39 [38, 97, 112, 111, 115, 59] (rep1 34 [38, 113, 117, 111, 116, 59] (esc false l)) = esc true l := by
  unfold rep1 esc
  rw [List.flatMap_assoc, List.flatMap_assoc]
  congr 1
  funext b
  unfold ent
  by_cases h1 : b = 38
  · subst h1; decide
  · by_cases h2 : b = 60
    · subst h2; decide
    · by_cases h3 : b = 62
      · subst h3; decide
      · by_cases h4 : b = 34
        · subst h4; decide
        · by_cases h5 : b = 39
          · subst h5; decide
          · simp [h1, h2, h3, h4, h5]

theorem rep1_length (c : UInt8) (new l : List UInt8) : (rep1 c new l).length ≤ l.length * (new.length + 1) := by
  induction l with
  | nil => simp [rep1]
  | cons b r ih =>
    have e : rep1 c new (b :: r) = (if b = c then new else [b]) ++ rep1 c new r := rfl
    rw [e, List.length_append, List.length_cons, Nat.add_mul, Nat.one_mul]
    have : (if b = c then new else [b]).length ≤ new.length + 1 := by split <;> simp
    omega

theorem ent_length (q : Bool) (b : UInt8) : 1 ≤ (ent q b).length ∧ (ent q b).length ≤ 6 := by
  unfold ent; repeat' split
  all_goals simp

theorem esc_length (q : Bool) (l : List UInt8) : (esc q l).length ≤ l.length * 6 := by
  induction l with
  | nil => simp [esc]
  | cons b r ih =>
    have e : esc q (b :: r) = ent q b ++ esc q r := rfl
    have := (ent_length q b).2
    rw [e, List.length_append, List.length_cons]
    omega

theorem esc_take (q : Bool) (l : List UInt8) (k : Nat) (h : k < l.length) : esc q (l.take (k + 1)) = esc q (l.take k) ++ ent q l[k] := by
  unfold esc
  rw [List.take_succ_eq_append_getElem h, List.flatMap_append]
  simp only [List.flatMap_cons, List.flatMap_nil, List.append_nil]

theorem esc_split (q : Bool) (l : List UInt8) (k : Nat) (h : k < l.length) : esc q l = esc q (l.take k) ++ (ent q l[k] ++ esc q (l.drop (k + 1))) := by
  rw [← List.append_assoc, ← esc_take q l k h]
  unfold esc
  rw [← List.flatMap_append, List.take_append_drop]

theorem esc_drop (q : Bool) (l : List UInt8) (k : Nat) (h : k < l.length) : (esc q l).drop (esc q (l.take k)).length = ent q l[k] ++ esc q (l.drop (k + 1)) := by
  rw [esc_split q l k h]
  simp

/-- No sign of the five is left where it stood: c is none of the entities' letters, and its own text is not itself. -/
theorem esc_no (q : Bool) (c : UInt8) (hc : ∀ b, c ∉ ent q b) (l : List UInt8) : c ∉ esc q l := by
  unfold esc
  intro h
  obtain ⟨b, _, hb⟩ := List.mem_flatMap.1 h
  exact hc b hb

theorem no60 (q : Bool) (b : UInt8) : (60 : UInt8) ∉ ent q b := by
  unfold ent
  by_cases h2 : b = 60
  · subst h2; simp
  · repeat' split
    all_goals simp
    all_goals exact fun e => h2 e.symm
theorem no62 (q : Bool) (b : UInt8) : (62 : UInt8) ∉ ent q b := by
  unfold ent
  by_cases h2 : b = 62
  · subst h2; simp
  · repeat' split
    all_goals simp
    all_goals exact fun e => h2 e.symm
theorem no34 (b : UInt8) : (34 : UInt8) ∉ ent true b := by
  unfold ent
  by_cases h2 : b = 34
  · subst h2; simp
  · repeat' split
    all_goals simp
    all_goals exact fun e => h2 e.symm
theorem no39 (b : UInt8) : (39 : UInt8) ∉ ent true b := by
  unfold ent
  by_cases h2 : b = 39
  · subst h2; simp
  · repeat' split
    all_goals simp
    all_goals exact fun e => h2 e.symm

/-- Without quote signs the two maps agree. -/
theorem esc_same (l : List UInt8) (h34 : (34 : UInt8) ∉ l) (h39 : (39 : UInt8) ∉ l) : esc true l = esc false l := by
  induction l with
  | nil => rfl
  | cons b r ih =>
    have e1 : esc true (b :: r) = ent true b ++ esc true r := rfl
    have e2 : esc false (b :: r) = ent false b ++ esc false r := rfl
    have a1 : ¬ b = 34 := fun e => h34 (by simp [e])
    have a2 : ¬ b = 39 := fun e => h39 (by simp [e])
    have e3 : ent true b = ent false b := by unfold ent; simp [a1, a2]
    rw [e1, e2, e3, ih (fun e => h34 (by simp [e])) (fun e => h39 (by simp [e]))]

end Go.Proofs.YtpjpdeecpobmlaaFmt
