/-
  The sanitizer of virtual module paths on bytes: never empty, free of what is forbidden, idempotent; no program in sight (no conditions).
-/
import Derived.Test.YtejdbjfniepomaaDoorSan
import Derived.Test.YtejdbjfniepomaaDoorRunes
namespace Go.Proofs.YtejdbjfniepomaaDoor
open Go.Lib

theorem goS_mem : ∀ (rs : List Int) (st g : Bool), ∀ r ∈ goS st g rs, r = 95 ∨ r ∈ rs
  | [], _, _, _, h => by cases h
  | x :: rs, st, g, r, h => by
    cases hx : badR x
    · rw [goS_good hx] at h
      rcases List.mem_append.1 h with h | h
      · cases g
        · obtain rfl := List.mem_singleton.1 h
          exact .inr List.mem_cons_self
        · rcases List.mem_cons.1 h with rfl | h
          · exact .inl rfl
          · obtain rfl := List.mem_singleton.1 h
            exact .inr List.mem_cons_self
      · rcases goS_mem rs _ _ r h with h | h
        · exact .inl h
        · exact .inr (List.mem_cons_of_mem _ h)
    · rw [goS_bad hx] at h
      rcases goS_mem rs _ _ r h with h | h
      · exact .inl h
      · exact .inr (List.mem_cons_of_mem _ h)
theorem valid95 : Valid 95 := by decide
theorem sanR_valid (rs : List Int) (h : ∀ r ∈ rs, Valid r) : ∀ r ∈ sanR rs, Valid r := by
  unfold sanR
  split
  · intro r hr
    obtain rfl := List.mem_singleton.1 hr
    exact valid95
  · intro r hr
    rcases goS_mem rs _ _ r hr with rfl | hr
    · exact valid95
    · exact h r hr

def san (l : List UInt8) : List UInt8 := (sanR (runesL l)).flatMap encodeRune
theorem runes_san (l : List UInt8) : runesL (san l) = sanR (runesL l) := runesL_encode _ (sanR_valid _ (runesL_valid l.length l (Nat.le_refl _)))
theorem san_idem (l : List UInt8) : san (san l) = san l := by
  have e : san (san l) = (sanR (runesL (san l))).flatMap encodeRune := rfl
  rw [e, runes_san, sanR_idem]
  rfl
theorem san_free (l : List UInt8) : ∀ r ∈ runesL (san l), badR r = false := by
  rw [runes_san]
  exact sanR_free _
theorem san_ne (l : List UInt8) : san l ≠ [] := by
  unfold san
  obtain ⟨r, rs, h⟩ := List.exists_cons_of_ne_nil (sanR_ne (runesL l))
  rw [h, List.flatMap_cons]
  intro e
  exact encode_ne r (List.append_eq_nil_iff.1 e).1

end Go.Proofs.YtejdbjfniepomaaDoor
