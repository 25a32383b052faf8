/-
  Plain facts on a set of strings kept as a map, and on a list sorted with its repeats dropped; no program in sight (conditions: those that each lemma names).
-/
import Derived.Test.YtpjpdeecpobmlaaFmtPrw
import Derived.Maps.Views
namespace Go.Proofs.YtpjpdeecpobmlaaFmt
open Go.RowKit Go.Maps Go.Sort

/-- The map's keys are the members of ks. -/
def HasI (D : DataW Unit) (ks : List (List UInt8)) : Prop := ∀ y, has D (.string y) = true ↔ y ∈ ks
theorem HasI.empty : HasI (.map []) [] := fun y => by rw [has_eq]; simp
theorem HasI.put {D : DataW Unit} {ks : List (List UInt8)} (hD : IsMap D) (h : HasI D ks) (x : List UInt8) (u : DataW Unit) : HasI (D.put (.string x) u) (ks ++ [x]) := by
  intro y
  by_cases e : y = x
  · subst e
    rw [has_put_same hD (by simp [WideAt.IsKeyLit]) u]
    simp
  · rw [has_put_other (by intro h2; exact e (by simpa using h2)) u, h y]
    simp [e]

theorem strKeys_len {w : World} {P : Program} {R : Value → Option (DataW Unit × List MemPlace)} {k : TypeId} {b n : Nat} {D : DataW Unit} (h : w.ownsMap P k R b n D) : (strKeys D).length = Maps.size D := by
  obtain ⟨es, rfl, _⟩ := h.keysOf
  rw [size_eq]
  simp [strKeys]
theorem keysS_len {w : World} {P : Program} {R : Value → Option (DataW Unit × List MemPlace)} {k : TypeId} {b n : Nat} {D : DataW Unit} (h : w.ownsMap P k R b n D) : (keysS D).length = Maps.size D := by
  rw [keysS, List.length_mergeSort, strKeys_len h]

/-! ### Sorted, the repeats dropped -/
def ddup (l : List (List UInt8)) : List (List UInt8) := l.foldl (fun acc x => if acc.getLast? = some x then acc else acc ++ [x]) []
theorem ddup_snoc (l : List (List UInt8)) (x : List UInt8) : ddup (l ++ [x]) = if (ddup l).getLast? = some x then ddup l else ddup l ++ [x] := by
  unfold ddup
  rw [List.foldl_append]
  rfl
theorem ddup_last : ∀ (n : Nat) (l : List (List UInt8)), l.length = n → (ddup l).getLast? = l.getLast?
  | 0, l, h => by rw [List.eq_nil_of_length_eq_zero h]; rfl
  | n + 1, l, h => by
    obtain ⟨r, x, rfl⟩ : ∃ r x, l = r ++ [x] := ⟨l.dropLast, l.getLast (by intro e; rw [e] at h; cases h), (List.dropLast_concat_getLast _).symm⟩
    rw [ddup_snoc]
    split
    · next h1 => rw [h1]; simp
    · simp
theorem ddup_mem : ∀ (n : Nat) (l : List (List UInt8)), l.length = n → ∀ y, y ∈ ddup l ↔ y ∈ l
  | 0, l, h => by rw [List.eq_nil_of_length_eq_zero h]; intro y; rfl
  | n + 1, l, h => by
    obtain ⟨r, x, rfl⟩ : ∃ r x, l = r ++ [x] := ⟨l.dropLast, l.getLast (by intro e; rw [e] at h; cases h), (List.dropLast_concat_getLast _).symm⟩
    have ih := ddup_mem n r (by simpa using h)
    intro y
    rw [ddup_snoc]
    split
    · next h1 =>
      rw [List.mem_append, List.mem_singleton, ih y]
      constructor
      · exact .inl
      · rintro (h2 | rfl)
        · exact h2
        · exact (ih _).1 (List.mem_of_getLast? h1)
    · rw [List.mem_append, List.mem_append, ih y]
theorem ddup_sorted : ∀ (n : Nat) (l : List (List UInt8)), l.length = n → l.Pairwise (fun a b => leB a b = true) → (ddup l).Pairwise (fun a b => leB a b = true ∧ a ≠ b)
  | 0, l, h, _ => by rw [List.eq_nil_of_length_eq_zero h]; exact List.Pairwise.nil
  | n + 1, l, h, hp => by
    obtain ⟨r, x, rfl⟩ : ∃ r x, l = r ++ [x] := ⟨l.dropLast, l.getLast (by intro e; rw [e] at h; cases h), (List.dropLast_concat_getLast _).symm⟩
    have hr : r.length = n := by simpa using h
    rw [List.pairwise_append] at hp
    have ih := ddup_sorted n r hr hp.1
    rw [ddup_snoc]
    split
    · exact ih
    · next h1 =>
      rw [List.pairwise_append]
      refine ⟨ih, List.pairwise_singleton _ _, fun a ha b hb => ?_⟩
      rw [List.mem_singleton] at hb
      subst hb
      have hax : leB a b = true := hp.2.2 a ((ddup_mem n r hr a).1 ha) b (by simp)
      refine ⟨hax, ?_⟩
      rintro rfl
      obtain ⟨z, hz⟩ : ∃ z, (ddup r).getLast? = some z := by
        cases hd : (ddup r).getLast? with
        | none => rw [List.getLast?_eq_none_iff.1 hd] at ha; cases ha
        | some z => exact ⟨z, rfl⟩
      obtain ⟨i, hi⟩ : ∃ i, ddup r = i ++ [z] := by
        rw [List.getLast?_eq_some_iff] at hz
        exact hz
      have hzm : z ∈ ddup r := List.mem_of_getLast? hz
      have hzx : leB z a = true := hp.2.2 z ((ddup_mem n r hr z).1 hzm) a (by simp)
      rw [hi] at ha ih
      rcases List.mem_append.1 ha with h2 | h2
      · have h3 := (List.pairwise_append.1 ih).2.2 a h2 z (by simp)
        have h4 : a = z := by
          have p := h3.1
          simp only [leB, decide_eq_true_eq] at p hzx
          exact List.le_antisymm p hzx
        exact h3.2 h4
      · rw [List.mem_singleton] at h2
        exact h1 (by rw [hz, h2])

def sd (ks : List (List UInt8)) : List (List UInt8) := ddup (ks.mergeSort leB)
theorem leB_trans : ∀ a b c : List UInt8, leB a b = true → leB b c = true → leB a c = true := fun a b c h1 h2 => by simp only [leB, decide_eq_true_eq] at *; exact List.le_trans h1 h2
theorem leB_total : ∀ a b : List UInt8, (leB a b || leB b a) = true := fun a b => by simp only [leB, Bool.or_eq_true, decide_eq_true_eq]; exact List.le_total a b
theorem leB_anti {a b : List UInt8} (h1 : leB a b = true) (h2 : leB b a = true) : a = b := by
  simp only [leB, decide_eq_true_eq] at h1 h2
  exact List.le_antisymm h1 h2
theorem sd_mem (ks : List (List UInt8)) (y : List UInt8) : y ∈ sd ks ↔ y ∈ ks := by
  rw [sd, ddup_mem _ _ rfl, List.mem_mergeSort]
theorem sd_pair (ks : List (List UInt8)) : (sd ks).Pairwise (fun a b => leB a b = true ∧ a ≠ b) := ddup_sorted _ _ rfl (List.pairwise_mergeSort leB_trans leB_total ks)
theorem keysS_eq {w : World} {P : Program} {R : Value → Option (DataW Unit × List MemPlace)} {k : TypeId} {b n : Nat} {D : DataW Unit} {ks : List (List UInt8)} (h : w.ownsMap P k R b n D) (K : Keyed P k) (hk : P.underlying k = some .string) (hI : HasI D ks) : keysS D = sd ks := by
  have hnd : (sd ks).Nodup := (sd_pair ks).imp (fun h => h.2)
  have hC : Collected D (fun _ => false) (sd ks) := ⟨hnd, fun x => by rw [sd_mem, ← hI x]; simp⟩
  have hp := hC.perm h K hk (fun _ => rfl)
  have e := mergeSort_of_perm hp
  rw [keysS, ← e]
  refine List.Perm.eq_of_pairwise (le := fun a b => leB a b = true) (fun a b _ _ h1 h2 => leB_anti h1 h2) (List.pairwise_mergeSort leB_trans leB_total _) ((sd_pair ks).imp fun h => h.1) (List.mergeSort_perm _ _)

end Go.Proofs.YtpjpdeecpobmlaaFmt
