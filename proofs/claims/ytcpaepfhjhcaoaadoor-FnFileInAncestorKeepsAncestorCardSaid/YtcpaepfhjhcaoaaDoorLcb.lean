/-
  Plain facts on directories as bytes: the last slash, the slashes counted, the leading components; no program in sight (conditions: those that each lemma names).
-/
import Derived.Test.YtcpaepfhjhcaoaaDoorLca
import Derived.Lib.CleanSame
namespace Go.Proofs.YtcpaepfhjhcaoaaDoor

theorem T_snoc (a : List Bs) (x : Bs) : T (a ++ [x]) = T a ++ 47 :: x := by
  rw [T_append]
  simp [T]
theorem T_nil_iff {l : List Bs} : T l = [] ↔ l = [] := by cases l <;> simp [T]
theorem D_T {l : List Bs} (h : l ≠ []) : D l = T l := by unfold D; rw [if_neg h]
theorem no47 {l : List Bs} (h : Comps l) {x : Bs} (hx : x ∈ l) : 47 ∉ x := fun hm => ((h x hx).2.2.2 47 hm).1 rfl
theorem Comps.sub {l m : List Bs} (h : Comps l) (hs : ∀ x ∈ m, x ∈ l) : Comps m := fun x hx => h x (hs x hx)
theorem Comps.take {l : List Bs} (h : Comps l) (n : Nat) : Comps (l.take n) := h.sub fun _ hx => List.mem_of_mem_take hx
theorem Comps.dropLast {l : List Bs} (h : Comps l) : Comps l.dropLast := h.sub fun _ hx => (List.dropLast_sublist _).subset hx
theorem D_head (l : List Bs) : ∃ r, D l = 47 :: r := by
  cases l with
  | nil => exact ⟨[], rfl⟩
  | cons x r => exact ⟨x ++ T r, rfl⟩

/-- The last slash. -/
def LastAt (l : Bs) (k : Nat) : Prop := l[k]? = some 47 ∧ ∀ j, k < j → l[j]? ≠ some 47
theorem LastAt.uniq {l : Bs} {k j : Nat} (h : LastAt l k) (h' : LastAt l j) : k = j := by
  rcases Nat.lt_trichotomy k j with h1 | h1 | h1
  · exact absurd h'.1 (h.2 j h1)
  · exact h1
  · exact absurd h.1 (h'.2 k h1)
theorem lastAt_snoc (a x : Bs) (h : 47 ∉ x) : LastAt (a ++ 47 :: x) a.length := by
  refine ⟨by simp, fun j hj hc => ?_⟩
  rw [List.getElem?_append_right (by omega)] at hc
  obtain ⟨i, hi⟩ : ∃ i, j - a.length = i + 1 := ⟨j - a.length - 1, by omega⟩
  rw [hi, List.getElem?_cons_succ] at hc
  exact h (List.mem_of_getElem? hc)
theorem dir_of_last {cs : List Bs} {k : Nat} (hc : Comps cs) (h : LastAt (D cs) k) : (if k = 0 then [47] else (D cs).take k) = D cs.dropLast := by
  by_cases h0 : cs = []
  · subst h0
    have hk : k = 0 := by
      have := (List.getElem?_eq_some_iff.1 h.1).1
      simp [D] at this
      omega
    rw [if_pos hk]
    rfl
  · have e := (List.dropLast_concat_getLast h0).symm
    have hD : D cs = T cs.dropLast ++ 47 :: cs.getLast h0 := by
      rw [D_T h0]
      conv => lhs; rw [e]
      exact T_snoc _ _
    rw [hD] at h ⊢
    have hk := h.uniq (lastAt_snoc _ _ (no47 hc (List.getLast_mem h0)))
    by_cases hz : cs.dropLast = []
    · rw [hz] at hk ⊢
      rw [if_pos (by rw [hk]; rfl)]
      rfl
    · have hlen : 0 < (T cs.dropLast).length := List.length_pos_iff.2 (fun e => hz (T_nil_iff.1 e))
      rw [if_neg (by omega), hk, List.take_left, D_T hz]

/-! ### The slashes counted -/
theorem count_T : ∀ l : List Bs, (∀ x ∈ l, 47 ∉ x) → (T l).count 47 = l.length
  | [], _ => rfl
  | x :: r, h => by
    rw [T, List.count_cons, List.count_append, List.count_eq_zero.2 (h x (by simp)), count_T r (fun y hy => h y (List.mem_cons_of_mem _ hy))]
    simp
/-- Where a slash stands, as many components end as slashes stand before it. -/
theorem slash_T : ∀ (l : List Bs) (i : Nat), (∀ x ∈ l, 47 ∉ x) → (T l)[i]? = some 47 → (T l).take i = T (l.take (((T l).take i).count 47))
  | [], i, _, h => by simp [T] at h
  | x :: r, 0, _, _ => by simp [T]
  | x :: r, i + 1, h, hi => by
    rw [T, List.getElem?_cons_succ] at hi
    have hx := h x (by simp)
    have hle : x.length ≤ i := by
      rcases Nat.lt_or_ge i x.length with hl | hl
      · rw [List.getElem?_append_left hl] at hi
        exact absurd (List.mem_of_getElem? hi) hx
      · exact hl
    rw [List.getElem?_append_right hle] at hi
    obtain ⟨j, hj⟩ : ∃ j, i = x.length + j := ⟨i - x.length, by omega⟩
    subst hj
    rw [show x.length + j - x.length = j by omega] at hi
    have ih := slash_T r j (fun y hy => h y (List.mem_cons_of_mem _ hy)) hi
    have e : (T (x :: r)).take (x.length + j + 1) = 47 :: (x ++ (T r).take j) := by
      rw [T, List.take_succ_cons, List.take_append]
      rw [List.take_of_length_le (by omega), show x.length + j - x.length = j by omega]
    rw [e, List.count_cons, List.count_append, List.count_eq_zero.2 hx]
    simp only [beq_self_eq_true, if_true, Nat.zero_add]
    rw [List.take_succ_cons, T, ← ih]

/-! ### The leading bytes that two components share -/
def run : Bs → Bs → Nat
  | x :: a, y :: b => if x ≠ 47 ∧ y ≠ 47 ∧ low x = low y then run a b + 1 else 0
  | _, _ => 0
/-- The place is a component's end. -/
def EndAt (l : Bs) (i : Nat) : Prop := i = l.length ∨ l[i]? = some 47
theorem run_T : ∀ (u v : Bs) (xs ys : List Bs), No47 u → No47 v →
    (lowL u = lowL v → run (u ++ T xs) (v ++ T ys) = u.length ∧ u.length = v.length) ∧ (lowL u ≠ lowL v → ¬ (EndAt (u ++ T xs) (run (u ++ T xs) (v ++ T ys)) ∧ EndAt (v ++ T ys) (run (u ++ T xs) (v ++ T ys))))
  | [], [], xs, ys, _, _ => by
    refine ⟨fun _ => ⟨?_, rfl⟩, fun h => absurd rfl h⟩
    cases xs <;> cases ys <;> simp [T, run]
  | [], c :: v, xs, ys, _, hv => by
    have hc : c ≠ 47 := hv c (by simp)
    refine ⟨fun h => by simp [lowL] at h, fun _ h => ?_⟩
    have e : run (([] : Bs) ++ T xs) (c :: v ++ T ys) = 0 := by cases xs <;> simp [T, run]
    rw [e] at h
    rcases h.2 with h | h
    · simp at h
    · simp at h
      exact hc h
  | c :: u, [], xs, ys, hu, _ => by
    have hc : c ≠ 47 := hu c (by simp)
    refine ⟨fun h => by simp [lowL] at h, fun _ h => ?_⟩
    have e : run (c :: u ++ T xs) (([] : Bs) ++ T ys) = 0 := by cases ys <;> simp [T, run]
    rw [e] at h
    rcases h.1 with h | h
    · simp at h
    · simp at h
      exact hc h
  | c :: u, d :: v, xs, ys, hu, hv => by
    have hc : c ≠ 47 := hu c (by simp)
    have hd : d ≠ 47 := hv d (by simp)
    obtain ⟨h1, h2⟩ := run_T u v xs ys (fun z hz => hu z (List.mem_cons_of_mem _ hz)) (fun z hz => hv z (List.mem_cons_of_mem _ hz))
    by_cases hl : low c = low d
    · have e : run (c :: u ++ T xs) (d :: v ++ T ys) = run (u ++ T xs) (v ++ T ys) + 1 := by
        rw [List.cons_append, List.cons_append, run, if_pos ⟨hc, hd, hl⟩]
      have e2 : lowL (c :: u) = lowL (d :: v) ↔ lowL u = lowL v := by simp [lowL, hl]
      rw [e]
      refine ⟨fun h => ?_, fun h hh => h2 (fun k => h (e2.2 k)) ?_⟩
      · have := h1 (e2.1 h)
        simp
        omega
      · obtain ⟨ha, hb⟩ := hh
        refine ⟨?_, ?_⟩
        · rcases ha with ha | ha
          · left; simp at ha ⊢; omega
          · right; rwa [List.cons_append, List.getElem?_cons_succ] at ha
        · rcases hb with ha | ha
          · left; simp at ha ⊢; omega
          · right; rwa [List.cons_append, List.getElem?_cons_succ] at ha
    · have e : run (c :: u ++ T xs) (d :: v ++ T ys) = 0 := by
        rw [List.cons_append, List.cons_append, run, if_neg (fun k => hl k.2.2)]
      rw [e]
      refine ⟨fun h => by simp [lowL, hl] at h, fun _ hh => ?_⟩
      rcases hh.1 with h | h
      · simp at h
      · simp at h
        exact hc h

/-! ### What path.Dir makes -/
open Go.Lib in
theorem els_T : ∀ l : List Bs, (∀ x ∈ l, 47 ∉ x) → ∀ x, 47 ∉ x → Pa.els (x ++ T l) = x :: l
  | [], _, x, hx => Pa.els_elem x [] hx (.inl rfl)
  | y :: r, h, x, hx => by
    rw [T, Pa.els_elem x _ hx (.inr rfl)]
    show x :: Pa.els (y ++ T r) = _
    rw [els_T r (fun z hz => h z (List.mem_cons_of_mem _ hz)) y (h y (by simp))]
open Go.Lib in
theorem fold_comp (ro : Bool) : ∀ (l st : List Bs), (∀ x ∈ l, x ≠ [] ∧ x ≠ [46] ∧ x ≠ [46, 46]) → l.foldl (Pa.cleanStep ro) st = l.reverse ++ st
  | [], st, _ => rfl
  | x :: r, st, h => by
    obtain ⟨h0, h1, h2⟩ := h x (by simp)
    rw [List.foldl_cons, Pa.step_elem ro st x h0 h1 h2, fold_comp ro r _ (fun z hz => h z (List.mem_cons_of_mem _ hz))]
    simp
open Go.Lib in
theorem inter_T : ∀ l : List Bs, 47 :: ([47] : Bs).intercalate l = D l
  | [] => rfl
  | [x] => by simp [List.intercalate, D, T]
  | x :: y :: r => by
    have ih := inter_T (y :: r)
    rw [D_T (by simp)] at ih ⊢
    rw [T, ← ih]
    simp [List.intercalate, List.intersperse]
open Go.Lib in
/-- A directory with a slash behind it is cleaned to itself. -/
theorem clean_dir (l : List Bs) (h : Comps l) : Pa.cleanEls (T l ++ [47]) = D l := by
  have h47 : ∀ x ∈ l, 47 ∉ x := fun x hx => no47 h hx
  have e : T l ++ [47] = T (l ++ [[]]) := by rw [T_snoc]
  have e2 : Pa.els (T (l ++ [[]])) = [] :: (l ++ [[]]) := by
    have := els_T (l ++ [[]]) (fun x hx => by
      rcases List.mem_append.1 hx with hx | hx
      · exact h47 x hx
      · simp at hx; simp [hx]) [] (by simp)
    simpa using this
  have hh : ((T (l ++ [[]])).head? == some 47) = true := by cases l <;> rfl
  have hn : T (l ++ [[]]) ≠ [] := fun e => by simpa using T_nil_iff.1 e
  rw [e, Pa.cleanEls_abs _ hn hh, e2, List.foldl_cons, Pa.step_nil, List.foldl_append, fold_comp true l [] (fun x hx => ⟨(h x hx).1, (h x hx).2.1, (h x hx).2.2.1⟩)]
  rw [List.foldl_cons, Pa.step_nil, List.foldl_nil, List.append_nil, List.reverse_reverse, inter_T]
end Go.Proofs.YtcpaepfhjhcaoaaDoor
