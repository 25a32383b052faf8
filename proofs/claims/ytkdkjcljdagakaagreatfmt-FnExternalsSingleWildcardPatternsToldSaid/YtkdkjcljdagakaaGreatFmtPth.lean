/-
  Plain facts on slash paths: valid segments joined by slashes, what path.Clean and a relative path make of them; no program in sight (conditions: those that each lemma names).
-/
import Derived.Test.YtkdkjcljdagakaaGreatFmtStr
import Derived.Lib.CleanSame
import Derived.Lib.IndexLaws
import Derived.Lib.Repeat
namespace Go.Proofs.YtkdkjcljdagakaaGreatFmt
open Go.RowKit Go.Lib

abbrev Bs := List UInt8

/-- A valid segment. -/
def Seg (l : Bs) : Prop := l ≠ [] ∧ l ≠ [46] ∧ l ≠ [46, 46] ∧ 47 ∉ l ∧ 92 ∉ l

/-- Joined by slashes. -/
def J : List Bs → Bs
  | [] => []
  | x :: r => x ++ (if r = [] then [] else 47 :: J r)

theorem J_one (x : Bs) : J [x] = x := by simp [J]
theorem J_two (x y : Bs) (r : List Bs) : J (x :: y :: r) = x ++ 47 :: J (y :: r) := by rw [J, if_neg (by simp)]
theorem J_inter : ∀ l : List Bs, J l = ([47] : Bs).intercalate l
  | [] => rfl
  | [x] => by rw [J_one]; simp [List.intercalate]
  | x :: y :: r => by
    rw [J_two, J_inter (y :: r)]
    simp [List.intercalate, List.intersperse]
theorem J_snoc (l : List Bs) (x : Bs) (h : l ≠ []) : J (l ++ [x]) = J l ++ 47 :: x := by
  rw [J_inter, J_inter]
  exact Pa.inter_snoc x l h
theorem J_cons_nil (r : List Bs) (h : r ≠ []) : J ([] :: r) = 47 :: J r := by rw [J, if_neg h]; rfl

theorem els_J : ∀ l : List Bs, l ≠ [] → (∀ x ∈ l, 47 ∉ x) → Pa.els (J l) = l
  | [], h, _ => absurd rfl h
  | [x], _, h => by
    have := Pa.els_elem x [] (h x (by simp)) (.inl rfl)
    rw [List.append_nil] at this
    rw [J_one, this]
    rfl
  | x :: y :: r, _, h => by
    rw [J_two, Pa.els_elem x _ (h x (by simp)) (.inr rfl)]
    show x :: Pa.els (J (y :: r)) = _
    rw [els_J (y :: r) (by simp) (fun z hz => h z (List.mem_cons_of_mem _ hz))]

theorem fold_seg (ro : Bool) : ∀ (l st : List Bs), (∀ x ∈ l, Seg x) → l.foldl (Pa.cleanStep ro) st = l.reverse ++ st
  | [], st, _ => rfl
  | x :: r, st, h => by
    obtain ⟨h0, h1, h2, _⟩ := h x (by simp)
    rw [List.foldl_cons, Pa.step_elem ro st x h0 h1 h2, fold_seg ro r _ (fun z hz => h z (List.mem_cons_of_mem _ hz))]
    simp

theorem clean_J (l : List Bs) (h0 : l ≠ []) (h : ∀ x ∈ l, Seg x) : Pa.cleanEls (47 :: J l) = 47 :: J l := by
  rw [Pa.cleanEls_abs _ (by simp) (by simp), Pa.els_slash, els_J l h0 (fun x hx => (h x hx).2.2.2.1), List.foldl_cons, Pa.step_nil, fold_seg true l [] h, List.append_nil, List.reverse_reverse, J_inter]

/-! ### A path that is not rooted stays so -/
def Nz (st : List Bs) : Prop := ∀ x ∈ st, x ≠ [] ∧ 47 ∉ x
theorem els_no47 : ∀ l : Bs, ∀ x ∈ Pa.els l, 47 ∉ x
  | [], x, h => by
    simp [Pa.els] at h
    simp [h]
  | c :: t, x, h => by
    rw [Pa.els] at h
    split at h
    · rcases List.mem_cons.1 h with rfl | h
      · simp
      · exact els_no47 t x h
    · next hc =>
      have ih := els_no47 t
      split at h
      · next e r he =>
        rw [he] at ih
        rcases List.mem_cons.1 h with rfl | h
        · intro hm
          rcases List.mem_cons.1 hm with hm | hm
          · exact hc hm.symm
          · exact ih e (by simp) hm
        · exact ih x (List.mem_cons_of_mem _ h)
      · simp at h
        subst h
        simpa using fun e => hc e.symm
theorem nz_step {ro : Bool} {st : List Bs} {e : Bs} (h : Nz st) (he : 47 ∉ e) : Nz (Pa.cleanStep ro st e) := by
  unfold Pa.cleanStep
  split
  · exact h
  · next h1 =>
    have hne : e ≠ [] := fun h0 => h1 (.inl h0)
    have hpush : Nz (e :: st) := by
      intro x hx
      rcases List.mem_cons.1 hx with rfl | hx
      · exact ⟨hne, he⟩
      · exact h x hx
    split
    · cases st with
      | nil =>
        show Nz (if ro then [] else [e])
        split
        · intro x hx; cases hx
        · exact hpush
      | cons y r =>
        show Nz (if y = [46, 46] then e :: (y :: r) else r)
        split
        · exact hpush
        · exact fun x hx => h x (List.mem_cons_of_mem _ hx)
    · exact hpush
theorem nz_fold {ro : Bool} : ∀ (l st : List Bs), Nz st → (∀ x ∈ l, 47 ∉ x) → Nz (l.foldl (Pa.cleanStep ro) st)
  | [], _, h, _ => h
  | x :: r, st, h, hl => nz_fold r _ (nz_step h (hl x (by simp))) (fun z hz => hl z (List.mem_cons_of_mem _ hz))
theorem head_J {l : List Bs} (h : Nz l) : (J l).head? ≠ some 47 := by
  cases l with
  | nil => simp [J]
  | cons x r =>
    obtain ⟨h0, h1⟩ := h x (by simp)
    cases x with
    | nil => exact absurd rfl h0
    | cons c t =>
      simp [J]
      intro e
      exact h1 (by simp [e])
theorem clean_rel_head (l : Bs) (h : l.head? ≠ some 47) : (Pa.cleanEls l).head? ≠ some 47 := by
  by_cases hl : l = []
  · subst hl
    decide
  · rw [Pa.cleanEls_rel l hl (by simpa using h)]
    have hnz : Nz ((Pa.els l).foldl (Pa.cleanStep false) []).reverse := by
      intro x hx
      exact nz_fold (Pa.els l) [] (fun x hx => by cases hx) (els_no47 l) x (List.mem_reverse.1 hx)
    have := head_J hnz
    rw [J_inter] at this
    split
    · decide
    · exact this
theorem clean_abs_head (l : Bs) : ∃ m, Pa.cleanEls (47 :: l) = 47 :: m := ⟨_, Pa.cleanEls_abs _ (by simp) (by simp)⟩

/-! ### The relative path -/
/-- Cut at the first slash. -/
def spl (l : Bs) : Bs × Bs := (l.takeWhile (· != 47), (l.dropWhile (· != 47)).drop 1)
theorem tw_all : ∀ (x rest : Bs), 47 ∉ x → (x ++ rest).takeWhile (· != 47) = x ++ rest.takeWhile (· != 47) ∧ (x ++ rest).dropWhile (· != 47) = rest.dropWhile (· != 47)
  | [], rest, _ => ⟨rfl, rfl⟩
  | c :: x, rest, h => by
    have hc : c ≠ 47 := fun e => h (by simp [e])
    have hb : (c != 47) = true := by simpa using hc
    obtain ⟨h1, h2⟩ := tw_all x rest (fun hm => h (List.mem_cons_of_mem _ hm))
    simp [hb, h1, h2]
theorem spl_none {l : Bs} (h : 47 ∉ l) : spl l = (l, []) := by
  obtain ⟨h1, h2⟩ := tw_all l [] h
  rw [List.append_nil] at h1 h2
  unfold spl
  rw [h1, h2]
  simp
theorem spl_at {x t : Bs} (h : 47 ∉ x) : spl (x ++ 47 :: t) = (x, t) := by
  obtain ⟨h1, h2⟩ := tw_all x (47 :: t) h
  unfold spl
  rw [h1, h2]
  simp
theorem spl_J (x : Bs) (r : List Bs) (h : 47 ∉ x) : spl (J (x :: r)) = (x, J r) := by
  cases r with
  | nil => rw [J_one, spl_none h]; rfl
  | cons y r => rw [J_two, spl_at h]

def DD : Bs := [46, 46]
/-- The segments of the way from one list to the other. -/
def way : List Bs → List Bs → List Bs
  | [], P => P
  | C, [] => C.map fun _ => DD
  | c :: C, p :: P => if c = p then way C P else ((c :: C).map fun _ => DD) ++ (p :: P)
theorem way_take : ∀ (k : Nat) (C P : List Bs), C.take k = P.take k → k ≤ C.length → k ≤ P.length → (k = C.length ∨ k = P.length ∨ C[k]? ≠ P[k]?) → way C P = (C.drop k).map (fun _ => DD) ++ P.drop k
  | 0, [], P, _, _, _, _ => by simp [way]
  | 0, c :: C, [], _, _, _, _ => by simp [way]
  | 0, c :: C, p :: P, _, _, _, h => by
    have hne : c ≠ p := by
      rcases h with h | h | h
      · cases h
      · cases h
      · simpa using h
    rw [way, if_neg hne]
    rfl
  | k + 1, [], P, _, h, _, _ => by simp at h
  | k + 1, c :: C, [], _, _, h, _ => by simp at h
  | k + 1, c :: C, p :: P, h, h1, h2, h3 => by
    rw [List.take_succ_cons, List.take_succ_cons, List.cons.injEq] at h
    obtain ⟨rfl, h⟩ := h
    rw [way, if_pos rfl]
    exact way_take k C P h (by simpa using h1) (by simpa using h2) (by simpa using h3)
theorem way_same {c p : Bs} {C P : List Bs} (h : c = p) : way (c :: C) (p :: P) = way C P := by rw [way, if_pos h]
theorem way_nil (P : List Bs) : way [] P = P := by simp [way]
theorem way_stop (C : List Bs) (h : C ≠ []) : way C [] = C.map fun _ => DD := by
  cases C with
  | nil => exact absurd rfl h
  | cons c C => simp [way]
theorem way_part {c p : Bs} {C P : List Bs} (h : c ≠ p) : way (c :: C) (p :: P) = ((c :: C).map fun _ => DD) ++ (p :: P) := by rw [way, if_neg h]
theorem way_ne : ∀ (C P : List Bs), C ≠ P → way C P ≠ []
  | [], P, h => by rw [way_nil]; exact fun e => h e.symm
  | c :: C, [], _ => by rw [way_stop _ (by simp)]; simp
  | c :: C, p :: P, h => by
    by_cases e : c = p
    · subst e
      rw [way_same rfl]
      exact way_ne C P (fun e => h (by rw [e]))
    · rw [way_part e]; simp
theorem way_self : ∀ (C : List Bs), way C C = []
  | [] => rfl
  | c :: C => by rw [way_same rfl, way_self C]

/-- '../' so many times, and what follows. -/
theorem ups : ∀ (C : List Bs) (p : Bs) (P : List Bs), C ≠ [] → Lib.repeatL [46, 46, 47] C.length ++ J (p :: P) = J ((C.map fun _ => DD) ++ (p :: P))
  | [], _, _, h => absurd rfl h
  | [c], p, P, _ => by
    simp [Lib.repeatL, DD, J]
  | c :: d :: C, p, P, _ => by
    have ih := ups (d :: C) p P (by simp)
    simp only [List.map_cons, List.cons_append, List.length_cons] at ih ⊢
    rw [Lib.repeatL, List.append_assoc, ih, J_two]
    simp [DD]
theorem ups_end : ∀ (C : List Bs), C ≠ [] → (Lib.repeatL [46, 46, 47] C.length) = J (C.map fun _ => DD) ++ [47]
  | [], h => absurd rfl h
  | [c], _ => by simp [Lib.repeatL, DD, J]
  | c :: d :: C, _ => by
    have ih := ups_end (d :: C) (by simp)
    simp only [List.map_cons, List.length_cons] at ih ⊢
    rw [Lib.repeatL, ih, J_two]
    simp [DD]
theorem count_J : ∀ (l : List Bs), l ≠ [] → (∀ x ∈ l, 47 ∉ x) → (J l).count 47 + 1 = l.length
  | [], h, _ => absurd rfl h
  | [x], _, h => by rw [J_one, List.count_eq_zero.2 (h x (by simp))]; rfl
  | x :: y :: r, _, h => by
    have ih := count_J (y :: r) (by simp) (fun z hz => h z (List.mem_cons_of_mem _ hz))
    rw [J_two, List.count_append, List.count_eq_zero.2 (h x (by simp)), List.count_cons]
    simp at ih ⊢
    omega
theorem no92_J : ∀ (l : List Bs), (∀ x ∈ l, 92 ∉ x) → 92 ∉ J l
  | [], _ => by simp [J]
  | [x], h => by rw [J_one]; exact h x (by simp)
  | x :: y :: r, h => by
    have ih := no92_J (y :: r) (fun z hz => h z (List.mem_cons_of_mem _ hz))
    rw [J_two]
    intro hm
    rcases List.mem_append.1 hm with hm | hm
    · exact h x (by simp) hm
    · rcases List.mem_cons.1 hm with hm | hm
      · exact absurd hm (by decide)
      · exact ih hm
theorem J_len : ∀ (l : List Bs), (J l).length ≤ (l.map fun x => x.length + 1).sum
  | [] => by simp [J]
  | [x] => by rw [J_one]; simp
  | x :: y :: r => by
    have ih := J_len (y :: r)
    rw [J_two]
    simp at ih ⊢
    omega
theorem J_ne {l : List Bs} (h0 : l ≠ []) (h : ∀ x ∈ l, x ≠ []) : J l ≠ [] := by
  cases l with
  | nil => exact absurd rfl h0
  | cons x r =>
    have := h x (by simp)
    rw [J]
    simp [this]
theorem J_inj_nil {l : List Bs} (h : ∀ x ∈ l, x ≠ []) (e : J l = []) : l = [] := by
  by_cases h0 : l = []
  · exact h0
  · exact absurd e (J_ne h0 h)
theorem J_inj {a b : List Bs} (ha : a ≠ []) (hb : b ≠ []) (h1 : ∀ x ∈ a, 47 ∉ x) (h2 : ∀ x ∈ b, 47 ∉ x) (e : J a = J b) : a = b := by
  rw [← els_J a ha h1, ← els_J b hb h2, e]

end Go.Proofs.YtkdkjcljdagakaaGreatFmt
