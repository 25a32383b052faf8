/-
  What escaping a closing tag makes of a text, and its plain laws; no program in sight (conditions: those that each lemma names).
-/
import Derived.Test.YtalnapcphdmjaaaDoorStr
import Derived.Lib.Fold
namespace Go.Proofs.YtalnapcphdmjaaaDoor
open Go.RowKit

def lowN (b : UInt8) : UInt8 := if 65 ≤ b.toNat ∧ b.toNat ≤ 90 then b + 32 else b
/-- The text begins with the tag, ASCII case ignored. -/
def foldPre : List UInt8 → List UInt8 → Bool
  | _, [] => true
  | [], _ :: _ => false
  | x :: s, y :: t => decide (lowN x = lowN y) && foldPre s t
/-- A place at which a backslash goes in behind. -/
def hit (tag : List UInt8) (c : UInt8) (r : List UInt8) : Bool := decide (c = 60) && decide (r.head? = some 47) && foldPre r tag
def esc (tag : List UInt8) : List UInt8 → List UInt8
  | [] => []
  | c :: r => c :: (if hit tag c r = true then 92 :: esc tag r else esc tag r)

theorem foldPre_short : ∀ (s t : List UInt8), s.length < t.length → foldPre s t = false
  | [], [], h => by simp at h
  | [], _ :: _, _ => rfl
  | _ :: _, [], h => by simp at h
  | x :: s, y :: t, h => by
    unfold foldPre
    rw [foldPre_short s t (by simpa using h), Bool.and_false]
theorem foldPre_take : ∀ (s t : List UInt8), foldPre (s.take t.length) t = foldPre s t
  | _, [] => by unfold foldPre; rfl
  | [], _ :: _ => by simp [foldPre]
  | x :: s, y :: t => by
    show (decide (lowN x = lowN y) && foldPre (s.take t.length) t) = _
    rw [foldPre_take s t]
    rfl

theorem esc_length (tag : List UInt8) : ∀ t : List UInt8, t.length ≤ (esc tag t).length ∧ (esc tag t).length ≤ 2 * t.length
  | [] => by simp [esc]
  | c :: r => by
    have ih := esc_length tag r
    unfold esc
    split
    · simp only [List.length_cons]; omega
    · simp only [List.length_cons]; omega
theorem esc_head (tag : List UInt8) (t : List UInt8) : (esc tag t).head? = t.head? := by
  cases t with
  | nil => rfl
  | cons c r => rfl

/-- A stretch in which nothing is hit is copied. -/
theorem esc_none (tag : List UInt8) : ∀ t : List UInt8, Lib.index t [60, 47] < 0 → esc tag t = t
  | [], _ => rfl
  | c :: r, h => by
    obtain ⟨h0, hr⟩ : ¬ (c = 60 ∧ r.head? = some 47) ∧ Lib.index r [60, 47] < 0 := by
      have hge := Lib.index_ge r [60, 47]
      unfold Lib.index at h
      split at h
      · exact absurd h (by decide)
      · rename_i hp
        split at h
        · rename_i hm
          refine ⟨fun ⟨e1, e2⟩ => hp ?_, by rw [beq_iff_eq] at hm; omega⟩
          subst e1
          cases r with
          | nil => simp at e2
          | cons d q => simp at e2; subst e2; simp
        · omega
    have hh : hit tag c r = false := by
      unfold hit
      by_cases hc : c = 60
      · by_cases hd : r.head? = some 47
        · exact absurd ⟨hc, hd⟩ h0
        · simp [hd]
      · simp [hc]
    unfold esc
    rw [hh, esc_none tag r hr]
    rfl
theorem esc_at (tag : List UInt8) : ∀ (t : List UInt8) (i : Nat), Lib.index t [60, 47] = (i : Int) → esc tag t = t.take (i + 1) ++ (if foldPre (t.drop (i + 1)) tag = true then [92] else []) ++ esc tag (t.drop (i + 1))
  | [], i, h => by
    rw [show Lib.index [] [60, 47] = -1 from rfl] at h
    omega
  | c :: r, i, h => by
    unfold Lib.index at h
    split at h
    · rename_i hp
      obtain rfl : i = 0 := by omega
      have hc : c = 60 ∧ r.head? = some 47 := by
        cases r with
        | nil => simp at hp
        | cons d q => simp at hp; exact ⟨hp.1.symm, by simp [hp.2]⟩
      obtain ⟨rfl, h2⟩ := hc
      show (60 : UInt8) :: (if hit tag 60 r = true then 92 :: esc tag r else esc tag r) = [60] ++ _ ++ esc tag r
      have hh : hit tag 60 r = foldPre r tag := by unfold hit; simp [h2]
      rw [hh]
      show _ = [60] ++ (if foldPre r tag = true then [92] else []) ++ esc tag r
      split <;> simp
    · rename_i hp
      split at h
      · omega
      · rename_i hm
        obtain ⟨j, rfl⟩ : ∃ j, i = j + 1 := ⟨i - 1, by
          have hge := Lib.index_ge r [60, 47]
          rw [beq_iff_eq] at hm
          omega⟩
        have hj : Lib.index r [60, 47] = (j : Int) := by omega
        have hh : hit tag c r = false := by
          unfold hit
          by_cases hc : c = 60
          · by_cases hd : r.head? = some 47
            · exfalso
              apply hp
              subst hc
              cases r with
              | nil => simp at hd
              | cons d q => simp at hd; subst hd; simp
            · simp [hd]
          · simp [hc]
        show c :: (if hit tag c r = true then 92 :: esc tag r else esc tag r) = _
        rw [hh, if_neg (by decide), esc_at tag r j hj]
        simp

/-! ### Escaping twice -/
theorem low92 (b : UInt8) (h : lowN b = 92) : b = 92 := by
  unfold lowN at h
  split at h
  · rename_i hr
    have := congrArg UInt8.toNat h
    rw [UInt8.toNat_add] at this
    have h1 : (32 : UInt8).toNat = 32 := rfl
    have h2 : (92 : UInt8).toNat = 92 := rfl
    rw [h1, h2] at this
    omega
  · exact h
theorem low_92 : lowN 92 = 92 := by decide

/-- A match with a tag without backslash lies ahead of every backslash that went in. -/
theorem fold_esc (T : List UInt8) : ∀ (tag r : List UInt8), (92 : UInt8) ∉ tag → foldPre (esc T r) tag = true → foldPre r tag = true
  | [], _, _, _ => by unfold foldPre; rfl
  | y :: t, [], _, h => h
  | y :: t, c :: r, h92, h => by
    have hy : y ≠ 92 := fun e => h92 (by rw [e]; exact List.mem_cons_self)
    have ht : (92 : UInt8) ∉ t := fun e => h92 (List.mem_cons_of_mem _ e)
    unfold esc foldPre at h
    rw [Bool.and_eq_true] at h
    unfold foldPre
    rw [h.1, Bool.true_and]
    have h2 := h.2
    split at h2
    · cases t with
      | nil => unfold foldPre; rfl
      | cons y2 t2 =>
        exfalso
        unfold foldPre at h2
        rw [Bool.and_eq_true] at h2
        have := of_decide_eq_true h2.1
        rw [low_92] at this
        exact ht (by rw [← low92 y2 this.symm]; exact List.mem_cons_self)
    · exact fold_esc T t r ht h2

theorem esc_cons (tag : List UInt8) (c : UInt8) (r : List UInt8) : esc tag (c :: r) = c :: (if hit tag c r = true then 92 :: esc tag r else esc tag r) := rfl
theorem hit_92 (tag : List UInt8) (c : UInt8) (r : List UInt8) : hit tag c (92 :: r) = false := by unfold hit; simp
theorem hit_not92 (tag : List UInt8) (r : List UInt8) : hit tag 92 r = false := by unfold hit; simp

theorem esc_twice (tag : List UInt8) (h92 : (92 : UInt8) ∉ tag) : ∀ t : List UInt8, esc tag (esc tag t) = esc tag t
  | [] => rfl
  | c :: r => by
    have ih := esc_twice tag h92 r
    rw [esc_cons]
    by_cases hh : hit tag c r = true
    · rw [if_pos hh, esc_cons, hit_92, if_neg (by decide), esc_cons, hit_not92, if_neg (by decide), ih]
    · rw [if_neg hh, esc_cons, ih]
      have hn : hit tag c (esc tag r) = false := by
        rw [Bool.eq_false_iff]
        intro hc
        apply hh
        unfold hit at hc ⊢
        rw [Bool.and_eq_true, Bool.and_eq_true] at hc
        rw [esc_head] at hc
        rw [hc.1.1, hc.1.2, fold_esc tag tag r h92 hc.2]
        rfl
      rw [hn, if_neg (by decide)]

/-- Where escaping changes nothing, nothing is hit. -/
theorem esc_fix (tag : List UInt8) : ∀ (t : List UInt8), esc tag t = t → ∀ (p : Nat) (c : UInt8), t[p]? = some c → hit tag c (t.drop (p + 1)) = false
  | [], _, p, c, h => by simp at h
  | d :: r, he, p, c, h => by
    have hl := esc_length tag r
    rw [esc_cons] at he
    by_cases hh : hit tag d r = true
    · rw [if_pos hh] at he
      have := congrArg List.length he
      simp only [List.length_cons] at this
      omega
    · rw [if_neg hh] at he
      injection he with _ he
      cases p with
      | zero =>
        simp at h
        subst h
        simpa using hh
      | succ q =>
        rw [List.getElem?_cons_succ] at h
        exact esc_fix tag r he q c h

/-! ### Taking it back -/
/-- Dropping each backslash between '<' and '/'. -/
def un : Option UInt8 → List UInt8 → List UInt8
  | _, [] => []
  | prev, c :: r => if c = 92 ∧ prev = some 60 ∧ r.head? = some 47 then un (some c) r else c :: un (some c) r
/-- The text has a '<', a backslash, a '/' of its own. -/
def own : List UInt8 → Bool
  | [] => false
  | c :: r => decide (c = 60 ∧ r.head? = some 92 ∧ (r.drop 1).head? = some 47) || own r

theorem un_esc (tag : List UInt8) : ∀ (t : List UInt8) (prev : Option UInt8), own t = false → ¬ (prev = some 60 ∧ t.head? = some 92 ∧ (t.drop 1).head? = some 47) → un prev (esc tag t) = t
  | [], _, _, _ => rfl
  | c :: r, prev, ho, hp => by
    unfold own at ho
    rw [Bool.or_eq_false_iff] at ho
    have hc := of_decide_eq_false ho.1
    rw [esc_cons]
    by_cases hh : hit tag c r = true
    · rw [if_pos hh]
      have hh2 := hh
      unfold hit at hh2
      rw [Bool.and_eq_true, Bool.and_eq_true] at hh2
      have h60 := of_decide_eq_true hh2.1.1
      have h47 := of_decide_eq_true hh2.1.2
      have ih := un_esc tag r (some 92) ho.2 (fun h => by cases h.1)
      unfold un
      rw [if_neg (fun h => by rw [h60] at h; exact absurd h.1 (by decide))]
      unfold un
      rw [if_pos ⟨rfl, by rw [h60], by rw [esc_head]; exact h47⟩, ih]
    · rw [if_neg hh]
      have ih := un_esc tag r (some c) ho.2 (fun h => hc ⟨Option.some.inj h.1, h.2.1, h.2.2⟩)
      unfold un
      rw [if_neg (fun h => hp ⟨h.2.1, by rw [h.1]; rfl, by rw [esc_head] at h; exact h.2.2⟩), ih]

/-- ASCII lowering told by the byte's number. -/
theorem low_eq (a b : UInt8) : decide (lowN a = lowN b) = (lowN a == lowN b) := by
  by_cases h : lowN a = lowN b
  · simp [h]
  · simp [h]
theorem foldPre_equal : ∀ (s t : List UInt8), s.length = t.length → (∀ b ∈ s, b.toNat < 128) → (∀ b ∈ t, b.toNat < 128) → Lib.equalFold s t = foldPre s t
  | [], [], _, _, _ => rfl
  | [], _ :: _, h, _, _ => by simp at h
  | _ :: _, [], h, _, _ => by simp at h
  | x :: s, y :: t, h, hs, ht => by
    have ih := foldPre_equal s t (by simpa using h) (fun b hb => hs b (List.mem_cons_of_mem _ hb)) (fun b hb => ht b (List.mem_cons_of_mem _ hb))
    show (Lib.foldEq x y && Lib.equalFold s t) = (decide (lowN x = lowN y) && foldPre s t)
    rw [ih]
    congr 1
    have hx := hs x List.mem_cons_self
    have hy := ht y List.mem_cons_self
    unfold Lib.foldEq
    apply decide_eq_decide.2
    have e : ∀ b : UInt8, b.toNat < 128 → (lowN b).toNat = if 65 ≤ b.toNat ∧ b.toNat ≤ 90 then b.toNat + 32 else b.toNat := by
      intro b hb
      unfold lowN
      split
      · rw [UInt8.toNat_add]
        have h1 : (32 : UInt8).toNat = 32 := rfl
        rw [h1]
        omega
      · rfl
    rw [← UInt8.toNat_inj, e x hx, e y hy]
    split <;> split <;> omega
/-- A text with a byte from 128 on does not match an ASCII tag of its length. -/
theorem foldPre_high : ∀ (s t : List UInt8), s.length = t.length → (∃ b ∈ s, 128 ≤ b.toNat) → (∀ b ∈ t, b.toNat < 128) → foldPre s t = false
  | [], _, _, h, _ => by obtain ⟨b, hb, _⟩ := h; cases hb
  | _ :: _, [], h, _, _ => by simp at h
  | x :: s, y :: t, h, ⟨b, hb, h8⟩, ht => by
    unfold foldPre
    rcases List.mem_cons.1 hb with rfl | hb
    · have hy := ht y List.mem_cons_self
      have hne : ¬ lowN b = lowN y := by
        intro e
        have e1 := congrArg UInt8.toNat e
        unfold lowN at e1
        rw [if_neg (by omega)] at e1
        split at e1
        · rw [UInt8.toNat_add] at e1
          have h1 : (32 : UInt8).toNat = 32 := rfl
          rw [h1] at e1
          omega
        · omega
      simp [hne]
    · rw [foldPre_high s t (by simpa using h) ⟨b, hb, h8⟩ (fun z hz => ht z (List.mem_cons_of_mem _ hz)), Bool.and_false]

end Go.Proofs.YtalnapcphdmjaaaDoor
