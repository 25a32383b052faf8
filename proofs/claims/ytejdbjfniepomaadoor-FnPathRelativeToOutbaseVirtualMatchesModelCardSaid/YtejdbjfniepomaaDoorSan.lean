/-
  The sanitizer of virtual module paths on runes, its model by runs, and that sanitizing twice is sanitizing once; no program in sight (no conditions).
-/
import GoSem.Claim
namespace Go.Proofs.YtejdbjfniepomaaDoor

/-- Forbidden in a file's name. -/
def badR (r : Int) : Bool := decide (r < 32) || r == 60 || r == 62 || r == 58 || r == 34 || r == 124 || r == 63 || r == 42
theorem bad_gap : badR 95 = false := by decide

/-- The sanitizer's loop: whether something is written, whether a gap is due. -/
def goS : Bool → Bool → List Int → List Int
  | _, _, [] => []
  | st, g, r :: rs => if badR r then goS st (st || g) rs else (if g then [95, r] else [r]) ++ goS true false rs
theorem goS_bad {st g : Bool} {r : Int} {rs : List Int} (h : badR r = true) : goS st g (r :: rs) = goS st (st || g) rs := by rw [goS, if_pos h]
theorem goS_good {st g : Bool} {r : Int} {rs : List Int} (h : badR r = false) : goS st g (r :: rs) = (if g then [95, r] else [r]) ++ goS true false rs := by rw [goS, if_neg (by rw [h]; decide)]
theorem goS_clean : ∀ (rs : List Int) (st : Bool), (∀ r ∈ rs, badR r = false) → goS st false rs = rs
  | [], _, _ => rfl
  | r :: rs, st, h => by
    rw [goS_good (h r List.mem_cons_self), goS_clean rs true (fun x hx => h x (List.mem_cons_of_mem _ hx))]
    rfl
theorem goS_free : ∀ (rs : List Int) (st g : Bool), ∀ r ∈ goS st g rs, badR r = false
  | [], _, _, _, h => by cases h
  | x :: rs, st, g, r, h => by
    cases hx : badR x
    · rw [goS_good hx] at h
      rcases List.mem_append.1 h with h | h
      · cases g
        · obtain rfl := List.mem_singleton.1 h
          exact hx
        · rcases List.mem_cons.1 h with rfl | h
          · exact bad_gap
          · obtain rfl := List.mem_singleton.1 h
            exact hx
      · exact goS_free rs _ _ r h
    · rw [goS_bad hx] at h
      exact goS_free rs _ _ r h

def sanR (rs : List Int) : List Int := if goS false false rs = [] then [95] else goS false false rs
theorem sanR_ne (rs : List Int) : sanR rs ≠ [] := by
  unfold sanR
  split
  · simp
  · assumption
theorem sanR_free (rs : List Int) : ∀ r ∈ sanR rs, badR r = false := by
  unfold sanR
  split
  · intro r hr
    obtain rfl := List.mem_singleton.1 hr
    exact bad_gap
  · exact goS_free rs false false
theorem sanR_idem (rs : List Int) : sanR (sanR rs) = sanR rs := by
  have h := goS_clean (sanR rs) false (sanR_free rs)
  have e : sanR (sanR rs) = if goS false false (sanR rs) = [] then [95] else goS false false (sanR rs) := rfl
  rw [e, h, if_neg (sanR_ne rs)]

/-- The model: runs of allowed runes, a gap between two. -/
def flushR (out run : List Int) : List Int := if run = [] then out else if out = [] then run else out ++ 95 :: run
def modR (out run : List Int) : List Int → List Int
  | [] => flushR out run
  | r :: rs => if badR r then modR (flushR out run) [] rs else modR out (run ++ [r]) rs
theorem flush_nil (out : List Int) : flushR out [] = out := by unfold flushR; rw [if_pos rfl]
theorem flush_add (out run : List Int) (r : Int) (h : run ≠ []) : flushR out (run ++ [r]) = flushR out run ++ [r] := by
  unfold flushR
  rw [if_neg h, if_neg (by simp)]
  split
  · rfl
  · simp
theorem modR_goS : ∀ (rs out run : List Int), modR out run rs = flushR out run ++ goS (decide (flushR out run ≠ [])) (decide (run = [] ∧ out ≠ [])) rs
  | [], out, run => by rw [modR, goS, List.append_nil]
  | r :: rs, out, run => by
    cases hr : badR r
    · rw [modR, if_neg (by rw [hr]; decide), modR_goS rs, goS_good hr]
      by_cases hrun : run = []
      · subst hrun
        rw [flush_nil]
        by_cases hout : out = []
        · subst hout
          simp [flushR]
        · simp [flushR, hout]
      · rw [flush_add out run r hrun]
        have : flushR out run ++ [r] ≠ [] := by simp
        simp [hrun]
    · rw [modR, if_pos hr, modR_goS rs, goS_bad hr, flush_nil]
      congr 1
      by_cases hE : flushR out run = []
      · have hno : ¬ (run = [] ∧ out ≠ []) := by
          rintro ⟨h1, h2⟩
          subst h1
          rw [flush_nil] at hE
          exact h2 hE
        simp [hE, hno]
      · simp [hE]
theorem model_san (rs : List Int) : modR [] [] rs = goS false false rs := by
  rw [modR_goS]
  simp [flushR]

end Go.Proofs.YtejdbjfniepomaaDoor
