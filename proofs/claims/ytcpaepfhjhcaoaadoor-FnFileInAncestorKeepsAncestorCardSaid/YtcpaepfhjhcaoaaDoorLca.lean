/-
  Plain law of the lowest common directory: paths as lists of components, ASCII case left out of account; no program in sight (conditions: those that each lemma names).
-/
import Derived.Test.YtcpaepfhjhcaoaaDoorStr
namespace Go.Proofs.YtcpaepfhjhcaoaaDoor

abbrev Bs := List UInt8
def low (c : UInt8) : UInt8 := if 65 ≤ c ∧ c ≤ 90 then c + 32 else c
def lowL (l : Bs) : Bs := l.map low

/-- How many leading components two lists share. -/
def lc : List Bs → List Bs → Nat
  | [], _ => 0
  | _ :: _, [] => 0
  | x :: xs, y :: ys => if lowL x = lowL y then lc xs ys + 1 else 0
theorem lc_nil (l : List Bs) : lc l [] = 0 := by cases l <;> rfl
theorem lc_le : ∀ a b : List Bs, lc a b ≤ a.length
  | [], _ => Nat.zero_le _
  | _ :: _, [] => Nat.zero_le _
  | x :: xs, y :: ys => by
    rw [lc]
    split
    · have := lc_le xs ys
      simp
      omega
    · exact Nat.zero_le _
theorem lc_symm : ∀ a b : List Bs, lc a b = lc b a
  | [], [] => rfl
  | [], _ :: _ => rfl
  | _ :: _, [] => rfl
  | x :: xs, y :: ys => by
    rw [lc, lc, lc_symm xs ys]
    by_cases h : lowL x = lowL y
    · rw [if_pos h, if_pos h.symm]
    · rw [if_neg h, if_neg fun e => h e.symm]
theorem lc_self : ∀ a : List Bs, lc a a = a.length
  | [] => rfl
  | x :: xs => by rw [lc, if_pos rfl, lc_self xs]; rfl
theorem lc_take : ∀ (k : Nat) (a b : List Bs), lc a (b.take k) = min k (lc a b)
  | 0, a, b => by rw [List.take_zero, lc_nil]; omega
  | k + 1, [], b => by
    show 0 = min (k + 1) 0
    omega
  | k + 1, a :: as, [] => by
    show 0 = min (k + 1) 0
    omega
  | k + 1, a :: as, b :: bs => by
    rw [List.take_succ_cons, lc, lc, lc_take k as bs]
    split <;> omega
theorem lc_ultra : ∀ a b c : List Bs, min (lc a b) (lc b c) ≤ lc a c
  | [], b, c => by
    show min 0 _ ≤ _
    omega
  | x :: a, [], c => by
    show min 0 _ ≤ _
    omega
  | x :: a, y :: b, [] => by
    rw [lc_nil (y :: b)]
    omega
  | x :: a, y :: b, z :: c => by
    have ih := lc_ultra a b c
    rw [lc, lc, lc]
    by_cases h1 : lowL x = lowL y
    · by_cases h2 : lowL y = lowL z
      · rw [if_pos h1, if_pos h2, if_pos (h1.trans h2)]
        omega
      · rw [if_pos h1, if_neg h2]
        omega
    · rw [if_neg h1]
      omega

/-- k is the least of what the lists share with L. -/
def IsMin (k : Nat) (Ds : List (List Bs)) (L : List Bs) : Prop := (∀ d ∈ Ds, k ≤ lc d L) ∧ ∃ d ∈ Ds, k = lc d L
theorem IsMin.uniq {k j : Nat} {Ds : List (List Bs)} {L : List Bs} (h : IsMin k Ds L) (h' : IsMin j Ds L) : k = j := by
  obtain ⟨d, hd, e⟩ := h.2
  obtain ⟨d', hd', e'⟩ := h'.2
  have h1 := h.1 d' hd'
  have h2 := h'.1 d hd
  omega
theorem IsMin.le {k : Nat} {Ds : List (List Bs)} {L : List Bs} (h : IsMin k Ds L) : k ≤ L.length := by
  obtain ⟨d, _, e⟩ := h.2
  rw [e, lc_symm]
  exact lc_le _ _
theorem IsMin.step {k : Nat} {Ds : List (List Bs)} {L : List Bs} (h : IsMin k Ds L) (hL : L ∈ Ds) (x : List Bs) : IsMin (min k (lc x L)) (Ds ++ [x]) x := by
  constructor
  · intro d hd
    rcases List.mem_append.1 hd with hd | hd
    · have h1 := h.1 d hd
      have h2 := lc_ultra d L x
      rw [lc_symm L x] at h2
      omega
    · obtain rfl : d = x := by simpa using hd
      rw [lc_self]
      have := lc_le d L
      omega
  · obtain ⟨d, hd, e⟩ := h.2
    by_cases hx : lc x L ≤ k
    · refine ⟨L, List.mem_append_left _ hL, ?_⟩
      rw [lc_symm L x]
      omega
    · refine ⟨d, List.mem_append_left _ hd, ?_⟩
      have h1 := lc_ultra d L x
      have h2 := lc_ultra d x L
      rw [lc_symm L x] at h1
      omega

/-- What the loop keeps: the first, cut by each that follows. -/
def cutAll (s : List Bs) (Ds : List (List Bs)) : List Bs := Ds.foldl (fun s d => d.take (lc d s)) s
theorem cutAll_snoc (s : List Bs) (Ds : List (List Bs)) (x : List Bs) : cutAll s (Ds ++ [x]) = x.take (lc x (cutAll s Ds)) := by
  unfold cutAll
  rw [List.foldl_append]
  rfl
/-- The kept one is the last list, cut to the least of what all share with it. -/
theorem cut_min : ∀ (n : Nat) (s : List Bs) (Ds : List (List Bs)), Ds.length = n → ∃ k L, (s :: Ds).getLast? = some L ∧ IsMin k (s :: Ds) L ∧ cutAll s Ds = L.take k
  | 0, s, Ds, h => by
    obtain rfl := List.eq_nil_of_length_eq_zero h
    refine ⟨s.length, s, rfl, ⟨?_, s, by simp, (lc_self s).symm⟩, by simp [cutAll]⟩
    intro d hd
    obtain rfl : d = s := by simpa using hd
    rw [lc_self]
    exact Nat.le_refl _
  | n + 1, s, Ds, h => by
    have hne : Ds ≠ [] := by rintro rfl; cases h
    obtain ⟨Es, x, rfl⟩ : ∃ Es x, Ds = Es ++ [x] := ⟨Ds.dropLast, Ds.getLast hne, (List.dropLast_concat_getLast hne).symm⟩
    obtain ⟨k, L, hl, hm, hc⟩ := cut_min n s Es (by simpa using h)
    have hL : L ∈ s :: Es := List.mem_of_getLast? hl
    refine ⟨min k (lc x L), x, by rw [← List.cons_append, List.getLast?_concat], ?_, ?_⟩
    · have := hm.step hL x
      rwa [List.cons_append] at this
    · rw [cutAll_snoc, hc, lc_take]

/-- The least, as a loop reckons it. -/
def least (L : List Bs) (m : Nat) (Ds : List (List Bs)) : Nat := Ds.foldl (fun m d => if lc d L < m then lc d L else m) m
theorem least_spec (L : List Bs) : ∀ (Ds : List (List Bs)) (m : Nat), (∀ d ∈ Ds, least L m Ds ≤ lc d L) ∧ least L m Ds ≤ m ∧ (least L m Ds = m ∨ ∃ d ∈ Ds, least L m Ds = lc d L)
  | [], m => ⟨fun d hd => (by cases hd), Nat.le_refl _, .inl rfl⟩
  | d :: Ds, m => by
    have ih := least_spec L Ds (if lc d L < m then lc d L else m)
    have e : least L m (d :: Ds) = least L (if lc d L < m then lc d L else m) Ds := rfl
    rw [e]
    obtain ⟨h1, h2, h3⟩ := ih
    have h4 : (if lc d L < m then lc d L else m) ≤ m ∧ (if lc d L < m then lc d L else m) ≤ lc d L := by split <;> omega
    refine ⟨fun x hx => ?_, by omega, ?_⟩
    · rcases List.mem_cons.1 hx with rfl | hx
      · omega
      · exact h1 x hx
    · rcases h3 with h3 | ⟨x, hx, h3⟩
      · by_cases hlt : lc d L < m
        · exact .inr ⟨d, by simp, by rw [h3, if_pos hlt]⟩
        · exact .inl (by rw [h3, if_neg hlt])
      · exact .inr ⟨x, List.mem_cons_of_mem _ hx, h3⟩
theorem least_min {L : List Bs} {Ds : List (List Bs)} (hL : L ∈ Ds) : IsMin (least L L.length Ds) Ds L := by
  obtain ⟨h1, h2, h3⟩ := least_spec L Ds L.length
  refine ⟨h1, ?_⟩
  rcases h3 with h3 | h3
  · exact ⟨L, hL, by rw [h3, lc_self]⟩
  · exact h3
theorem cut_least (s : List Bs) (Ds : List (List Bs)) {L : List Bs} (h : (s :: Ds).getLast? = some L) : cutAll s Ds = L.take (least L L.length (s :: Ds)) := by
  obtain ⟨k, L', hl, hm, hc⟩ := cut_min _ s Ds rfl
  rw [h] at hl
  cases hl
  rw [hc, hm.uniq (least_min (List.mem_of_getLast? h))]

/-! ### As bytes -/
/-- Each component behind a slash. -/
def T : List Bs → Bs
  | [] => []
  | x :: r => 47 :: (x ++ T r)
/-- The directory of these components. -/
def D (l : List Bs) : Bs := if l = [] then [47] else T l
def Comp (x : Bs) : Prop := x ≠ [] ∧ x ≠ [46] ∧ x ≠ [46, 46] ∧ ∀ c ∈ x, c ≠ 47 ∧ c ≠ 92 ∧ c < 128
def Comps (l : List Bs) : Prop := ∀ x ∈ l, Comp x
theorem T_append : ∀ a b : List Bs, T (a ++ b) = T a ++ T b
  | [], _ => rfl
  | x :: a, b => by rw [List.cons_append, T, T, T_append a b]; simp
theorem T_take (n : Nat) (l : List Bs) : (T l).take (T (l.take n)).length = T (l.take n) := by
  have e : T l = T (l.take n) ++ T (l.drop n) := by rw [← T_append, List.take_append_drop]
  rw [e, List.take_left]
/-- The last slash, bumped at the root. -/
def fin (ls : Nat) : Nat := if ls = 0 then 1 else ls
/-- As the loop goes: what is left of both, the place, the last slash. -/
def scan : Bs → Bs → Nat → Nat → Nat
  | [], [], i, _ => i
  | [], y :: _, i, ls => if y = 47 then i else fin ls
  | x :: _, [], i, ls => if x = 47 then i else fin ls
  | x :: a, y :: b, i, ls => if x = 47 ∧ y = 47 then scan a b (i + 1) i else if (x = 47 ∨ y = 47) ∨ low x ≠ low y then fin ls else scan a b (i + 1) ls
def No47 (x : Bs) : Prop := ∀ c ∈ x, c ≠ 47
theorem scan_comp : ∀ (x y : Bs) (xs ys : List Bs) (i ls : Nat), No47 x → No47 y → scan (x ++ T xs) (y ++ T ys) i ls = if lowL x = lowL y then scan (T xs) (T ys) (i + x.length) ls else fin ls
  | [], [], xs, ys, i, ls, _, _ => by simp
  | [], c :: y, xs, ys, i, ls, _, hy => by
    have hc : c ≠ 47 := hy c (by simp)
    have e : ¬ lowL [] = lowL (c :: y) := by simp [lowL]
    rw [if_neg e]
    cases xs with
    | nil => simp [T, scan, hc]
    | cons z zs => simp [T, scan, hc]
  | c :: x, [], xs, ys, i, ls, hx, _ => by
    have hc : c ≠ 47 := hx c (by simp)
    have e : ¬ lowL (c :: x) = lowL [] := by simp [lowL]
    rw [if_neg e]
    cases ys with
    | nil => simp [T, scan, hc]
    | cons z zs => simp [T, scan, hc]
  | c :: x, d :: y, xs, ys, i, ls, hx, hy => by
    have hc : c ≠ 47 := hx c (by simp)
    have hd : d ≠ 47 := hy d (by simp)
    have ih := scan_comp x y xs ys (i + 1) ls (fun z hz => hx z (List.mem_cons_of_mem _ hz)) (fun z hz => hy z (List.mem_cons_of_mem _ hz))
    rw [List.cons_append, List.cons_append, scan, if_neg (fun e => hc e.1)]
    by_cases hl : low c = low d
    · rw [if_neg (by rintro ((h | h) | h); exact hc h; exact hd h; exact h hl), ih]
      have e : (lowL (c :: x) = lowL (d :: y)) ↔ (lowL x = lowL y) := by simp [lowL, hl]
      by_cases h : lowL x = lowL y
      · rw [if_pos h, if_pos (e.2 h), List.length_cons]
        congr 1
        omega
      · rw [if_neg h, if_neg (fun k => h (e.1 k))]
    · rw [if_pos (.inr hl), if_neg]
      simp [lowL, hl]
theorem scan_T : ∀ (xs ys : List Bs) (i ls : Nat), 0 < i → (∀ x ∈ xs, No47 x) → (∀ y ∈ ys, No47 y) → scan (T xs) (T ys) i ls = i + (T (xs.take (lc xs ys))).length
  | [], [], i, ls, _, _, _ => by simp [T, scan, lc]
  | [], y :: ys, i, ls, _, _, _ => by simp [T, scan, lc]
  | x :: xs, [], i, ls, _, _, _ => by simp [T, scan, lc]
  | x :: xs, y :: ys, i, ls, hi, hx, hy => by
    have e : scan (T (x :: xs)) (T (y :: ys)) i ls = scan (x ++ T xs) (y ++ T ys) (i + 1) i := by
      rw [T, T, scan, if_pos ⟨rfl, rfl⟩]
    rw [e, scan_comp x y xs ys _ _ (hx x (by simp)) (hy y (by simp))]
    by_cases h : lowL x = lowL y
    · rw [if_pos h, scan_T xs ys _ _ (by omega) (fun z hz => hx z (List.mem_cons_of_mem _ hz)) (fun z hz => hy z (List.mem_cons_of_mem _ hz)), lc, if_pos h, List.take_succ_cons, T]
      simp
      omega
    · rw [if_neg h, lc, if_neg h]
      unfold fin
      rw [if_neg (by omega)]
      simp [T]
theorem comp_no47 {l : List Bs} (h : Comps l) : ∀ x ∈ l, No47 x := fun x hx c hc => ((h x hx).2.2.2 c hc).1
/-- What the loop finds, at two directories. -/
theorem scan_D (xs ys : List Bs) (hx : Comps xs) (hy : Comps ys) : (D xs).take (scan (D xs) (D ys) 0 0) = D (xs.take (lc xs ys)) := by
  have top : ∀ (x y : Bs) (xs ys : List Bs), No47 x → No47 y → scan (T (x :: xs)) (T (y :: ys)) 0 0 = if lowL x = lowL y then scan (T xs) (T ys) (1 + x.length) 0 else 1 := by
    intro x y xs ys h1 h2
    have e : scan (T (x :: xs)) (T (y :: ys)) 0 0 = scan (x ++ T xs) (y ++ T ys) (0 + 1) 0 := by
      rw [T, T, scan, if_pos ⟨rfl, rfl⟩]
    rw [e, scan_comp x y xs ys _ _ h1 h2]
    rfl
  have no : No47 [] := fun c hc => by cases hc
  have h47 : ([47] : Bs) = T [[]] := rfl
  cases xs with
  | nil =>
    have e : D ([] : List Bs) = T [[]] := rfl
    cases ys with
    | nil => rw [e, top [] [] [] [] no no]; rfl
    | cons y ys =>
      have hy0 := hy y (by simp)
      have e2 : D (y :: ys) = T (y :: ys) := rfl
      rw [e, e2, top [] y [] ys no (fun c hc => (hy0.2.2.2 c hc).1), if_neg]
      · rfl
      · intro h
        have := congrArg List.length h
        simp [lowL] at this
        exact hy0.1 (List.eq_nil_of_length_eq_zero this.symm)
  | cons x xs =>
    have hx0 := hx x (by simp)
    have e : D (x :: xs) = T (x :: xs) := rfl
    cases ys with
    | nil =>
      have e2 : D ([] : List Bs) = T [[]] := rfl
      rw [e, e2, top x [] xs [] (fun c hc => (hx0.2.2.2 c hc).1) no, if_neg]
      · rfl
      · intro h
        have := congrArg List.length h
        simp [lowL] at this
        exact hx0.1 this
    | cons y ys =>
      have hy0 := hy y (by simp)
      have e2 : D (y :: ys) = T (y :: ys) := rfl
      rw [e, e2, top x y xs ys (fun c hc => (hx0.2.2.2 c hc).1) (fun c hc => (hy0.2.2.2 c hc).1)]
      by_cases h : lowL x = lowL y
      · rw [if_pos h, scan_T xs ys _ _ (by omega) (comp_no47 fun z hz => hx z (List.mem_cons_of_mem _ hz)) (comp_no47 fun z hz => hy z (List.mem_cons_of_mem _ hz)), lc, if_pos h, List.take_succ_cons]
        have e3 : D (x :: xs.take (lc xs ys)) = T (x :: xs.take (lc xs ys)) := rfl
        rw [e3]
        have := T_take (lc xs ys + 1) (x :: xs)
        rw [List.take_succ_cons] at this
        rw [show 1 + x.length + (T (xs.take (lc xs ys))).length = (T (x :: xs.take (lc xs ys))).length by simp [T]; omega]
        exact this
      · rw [if_neg h, lc, if_neg h]
        rfl
end Go.Proofs.YtcpaepfhjhcaoaaDoor
