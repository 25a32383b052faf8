/-
  Plain facts on alias names: a text that path.Clean leaves as it is, its backslashes turned to slashes first, and that begins with neither a point nor a slash, is valid segments joined by slashes; no program in sight (conditions: those that each lemma names).
-/
import Derived.Test.YtkdkjcljdagakaaGreatFmtPth
import Derived.Lib.JoinSame2
namespace Go.Proofs.YtkdkjcljdagakaaGreatFmt
open Go.RowKit Go.Lib

def r92 (l : Bs) : Bs := l.map fun b => if b = 92 then 47 else b
theorem r92_no (l : Bs) : 92 ∉ r92 l := by
  intro h
  obtain ⟨b, _, hb⟩ := List.mem_map.1 h
  split at hb
  · exact absurd hb (by decide)
  · next hn => exact hn hb
theorem r92_same {l : Bs} (h : 92 ∉ l) : r92 l = l := by
  unfold r92
  conv => rhs; rw [← List.map_id l]
  apply List.map_congr_left
  intro b hb
  rw [if_neg (by rintro rfl; exact h hb)]
  rfl
theorem J_els : ∀ l : Bs, J (Pa.els l) = l
  | [] => rfl
  | c :: t => by
    have ih := J_els t
    obtain ⟨e, r, he⟩ := Pa.els_ne t
    rw [Pa.els]
    by_cases hc : c = 47
    · rw [if_pos hc, he, J_two, ← he, ih, hc]
      rfl
    · rw [if_neg hc, he]
      rw [he] at ih
      show J ((c :: e) :: r) = c :: t
      rw [← ih]
      simp [J]
theorem els_sub : ∀ (l : Bs) (x : Bs), x ∈ Pa.els l → ∀ b ∈ x, b ∈ l
  | [], x, h, b, hb => by
    simp [Pa.els] at h
    subst h
    cases hb
  | c :: t, x, h, b, hb => by
    have ih := els_sub t
    obtain ⟨e, r, he⟩ := Pa.els_ne t
    rw [Pa.els] at h
    by_cases hc : c = 47
    · rw [if_pos hc] at h
      rcases List.mem_cons.1 h with rfl | h
      · cases hb
      · exact List.mem_cons_of_mem _ (ih x h b hb)
    · rw [if_neg hc, he] at h
      rw [he] at ih
      have h' : x ∈ (c :: e) :: r := h
      rcases List.mem_cons.1 h' with rfl | h2
      · rcases List.mem_cons.1 hb with rfl | hb
        · simp
        · exact List.mem_cons_of_mem _ (ih e (by simp) b hb)
      · exact List.mem_cons_of_mem _ (ih x (by simp [h2]) b hb)

abbrev D2 : Bs := [46, 46]
/-- What path.Clean holds of a path that is not rooted: good elements upon some '..'. -/
def Stk (st : List Bs) : Prop := (∀ x ∈ st, x ≠ [] ∧ x ≠ [46] ∧ 47 ∉ x ∧ 92 ∉ x) ∧ ∃ a k, st = a ++ List.replicate k D2 ∧ D2 ∉ a
theorem Stk.nil : Stk [] := ⟨fun x h => absurd h (by simp), [], 0, rfl, by simp⟩
theorem Stk.step {st : List Bs} {e : Bs} (h : Stk st) (h47 : 47 ∉ e) (h92 : 92 ∉ e) : Stk (Pa.cleanStep false st e) := by
  obtain ⟨h1, a, k, hst, ha⟩ := h
  unfold Pa.cleanStep
  split
  · exact ⟨h1, a, k, hst, ha⟩
  · next hne =>
    have hpush : ∀ x ∈ e :: st, x ≠ [] ∧ x ≠ [46] ∧ 47 ∉ x ∧ 92 ∉ x := by
      intro x hx
      rcases List.mem_cons.1 hx with rfl | hx
      · exact ⟨fun e0 => hne (.inl e0), fun e0 => hne (.inr e0), h47, h92⟩
      · exact h1 x hx
    split
    · next hd =>
      cases st with
      | nil =>
        show Stk [e]
        exact ⟨hpush, [], 1, by rw [hd]; rfl, by simp⟩
      | cons y r =>
        show Stk (if y = [46, 46] then e :: (y :: r) else r)
        cases a with
        | nil =>
          have hy : y = D2 := by
            have hm : y ∈ List.replicate k D2 := by
              have : y ∈ y :: r := by simp
              rw [hst] at this
              simpa using this
            exact (List.mem_replicate.1 hm).2
          rw [if_pos hy]
          refine ⟨hpush, [], k + 1, ?_, by simp⟩
          rw [hst, hd]
          rfl
        | cons z a =>
          have hz : y = z ∧ r = a ++ List.replicate k D2 := by simpa using hst
          rw [if_neg (by rw [hz.1]; intro e0; exact ha (by rw [show D2 = z from e0.symm]; simp))]
          exact ⟨fun x hx => h1 x (List.mem_cons_of_mem _ hx), a, k, hz.2, fun hm => ha (List.mem_cons_of_mem _ hm)⟩
    · next hd =>
      refine ⟨hpush, e :: a, k, by rw [hst]; rfl, ?_⟩
      intro hm
      rcases List.mem_cons.1 hm with h2 | h2
      · exact hd h2.symm
      · exact ha h2
theorem Stk.fold : ∀ (l st : List Bs), Stk st → (∀ x ∈ l, 47 ∉ x ∧ 92 ∉ x) → Stk (l.foldl (Pa.cleanStep false) st)
  | [], _, h, _ => h
  | x :: r, st, h, hl => Stk.fold r _ (h.step (hl x (by simp)).1 (hl x (by simp)).2) (fun z hz => hl z (List.mem_cons_of_mem _ hz))

theorem clean_ok (l : Bs) (h46 : l.head? ≠ some 46) (h47 : l.head? ≠ some 47) : Pa.clean (r92 l) = l ↔ ∀ x ∈ Pa.els l, Seg x := by
  rw [Pa.clean_eq_cleanEls]
  constructor
  · intro h
    by_cases hl : l = []
    · subst hl
      exact absurd h (by decide)
    have hne : r92 l ≠ [] := by
      intro e
      exact hl (List.map_eq_nil_iff.1 e)
    by_cases hr : (r92 l).head? = some 47
    · rw [Pa.cleanEls_abs _ hne (by rw [hr]; rfl)] at h
      exact absurd (by rw [← h]; rfl) h47
    rw [Pa.cleanEls_rel _ hne (by simpa using hr)] at h
    have hS := Stk.fold (Pa.els (r92 l)) [] Stk.nil (fun x hx => ⟨els_no47 _ x hx, fun hm => r92_no l (els_sub _ x hx _ hm)⟩)
    generalize (Pa.els (r92 l)).foldl (Pa.cleanStep false) [] = st at h hS
    obtain ⟨h1, a, k, hst, ha⟩ := hS
    have hJ : J st.reverse = l := by
      rw [J_inter]
      split at h
      · exact absurd (by rw [← h]; rfl) h46
      · exact h
    have hk : k = 0 := by
      cases k with
      | zero => rfl
      | succ k =>
        exfalso
        apply h46
        rw [← hJ, hst, List.reverse_append, List.reverse_replicate, List.replicate_succ]
        simp [J]
    subst hk
    have hst2 : st = a := by rw [hst]; simp
    have h0 : st.reverse ≠ [] := by
      intro e
      rw [e] at hJ
      exact hl hJ.symm
    rw [← hJ, els_J st.reverse h0 (fun x hx => (h1 x (List.mem_reverse.1 hx)).2.2.1)]
    intro x hx
    have hx2 := List.mem_reverse.1 hx
    obtain ⟨g1, g2, g3, g4⟩ := h1 x hx2
    refine ⟨g1, g2, ?_, g3, g4⟩
    rintro rfl
    rw [hst2] at hx2
    exact ha hx2
  · intro h
    have h92 : 92 ∉ l := by
      intro hm
      rw [← J_els l] at hm
      exact no92_J (Pa.els l) (fun x hx => (h x hx).2.2.2.2) hm
    rw [r92_same h92]
    by_cases hl : l = []
    · subst hl
      exact absurd rfl (h [] (by simp [Pa.els])).1
    rw [Pa.cleanEls_rel _ hl (by simpa using h47), fold_seg false (Pa.els l) [] h, List.append_nil, List.reverse_reverse, ← J_inter, J_els, if_neg hl]

end Go.Proofs.YtkdkjcljdagakaaGreatFmt
