/-
  Plain facts on the map that is built from keys and values in their order; no program in sight (conditions: those that each lemma names).
-/
import Derived.Test.YtkdkjcljdagakaaGreatFmtFlt
namespace Go.Proofs.YtkdkjcljdagakaaGreatFmt
open Go.RowKit Go.Maps Go.Lib

abbrev KV := ByteArray × ByteArray
def kL (p : KV) : Lit := .string p.1.data.toList
def vD (p : KV) : DataW Unit := .lit (.string p.2.data.toList)
def bmap (ps : List KV) : DataW Unit := ps.foldl (fun m p => m.put (kL p) (vD p)) (.map [])
theorem bmap_snoc (ps : List KV) (p : KV) : bmap (ps ++ [p]) = (bmap ps).put (kL p) (vD p) := by
  unfold bmap
  rw [List.foldl_append]
  rfl
theorem kL_key (p : KV) : WideAt.IsKeyLit (kL p) := by simp [kL, WideAt.IsKeyLit]
theorem kL_eq {p q : KV} : kL p = kL q ↔ p.1 = q.1 := by
  unfold kL
  constructor
  · intro h
    injection h with h
    rw [← Lib.mk_data p.1, ← Lib.mk_data q.1, h]
  · intro h
    rw [h]
theorem bmap_tidy : ∀ (n : Nat) (ps : List KV), ps.length = n → Tidy (bmap ps)
  | 0, ps, h => by rw [List.eq_nil_of_length_eq_zero h]; exact tidy_empty
  | n + 1, ps, h => by
    obtain ⟨r, x, rfl⟩ : ∃ r x, ps = r ++ [x] := ⟨ps.dropLast, ps.getLast (by intro e; rw [e] at h; cases h), (List.dropLast_concat_getLast _).symm⟩
    rw [bmap_snoc]
    exact (bmap_tidy n r (by simpa using h)).put (kL_key x) _
theorem bmap_has : ∀ (n : Nat) (ps : List KV), ps.length = n → ∀ k, has (bmap ps) k = true ↔ ∃ p ∈ ps, k = kL p
  | 0, ps, h, k => by rw [List.eq_nil_of_length_eq_zero h]; simp [bmap, has_eq]
  | n + 1, ps, h, k => by
    obtain ⟨r, x, rfl⟩ : ∃ r x, ps = r ++ [x] := ⟨ps.dropLast, ps.getLast (by intro e; rw [e] at h; cases h), (List.dropLast_concat_getLast _).symm⟩
    have ih := bmap_has n r (by simpa using h) k
    have ht := bmap_tidy n r (by simpa using h)
    rw [bmap_snoc]
    by_cases e : k = kL x
    · subst e
      rw [has_put_same ht.isMap (kL_key x)]
      simp only [true_iff]
      exact ⟨x, by simp, rfl⟩
    · rw [has_put_other e, ih]
      constructor
      · rintro ⟨p, hp, hk⟩
        exact ⟨p, by simp [hp], hk⟩
      · rintro ⟨p, hp, hk⟩
        rcases List.mem_append.1 hp with hp | hp
        · exact ⟨p, hp, hk⟩
        · rw [List.mem_singleton] at hp
          subst hp
          exact absurd hk e
/-- Nothing later has this key. -/
def LastAt (ps : List KV) (i : Nat) : Prop := ∀ j p q, i < j → ps[i]? = some p → ps[j]? = some q → q.1 ≠ p.1
theorem bmap_at : ∀ (n : Nat) (ps : List KV), ps.length = n → ∀ i p, ps[i]? = some p → LastAt ps i → ∀ z, (bmap ps).atKey (kL p) z = vD p
  | 0, ps, h, i, p, hp, _, z => by rw [List.eq_nil_of_length_eq_zero h] at hp; simp at hp
  | n + 1, ps, h, i, p, hp, hl, z => by
    obtain ⟨r, x, rfl⟩ : ∃ r x, ps = r ++ [x] := ⟨ps.dropLast, ps.getLast (by intro e; rw [e] at h; cases h), (List.dropLast_concat_getLast _).symm⟩
    have hr : r.length = n := by simpa using h
    have ht := bmap_tidy n r hr
    rw [bmap_snoc]
    by_cases hi : i < r.length
    · have hp' : r[i]? = some p := by rwa [List.getElem?_append_left hi] at hp
      have hne : kL p ≠ kL x := by
        intro e
        exact hl r.length p x hi (by rw [List.getElem?_append_left hi]; exact hp') (by simp) (kL_eq.1 e).symm
      rw [atKey_put_other hne]
      exact bmap_at n r hr i p hp' (fun j p' q hj h1 h2 => hl j p' q hj (by rw [List.getElem?_append_left hi]; exact h1) (by rw [List.getElem?_append_left (List.getElem?_eq_some_iff.1 h2).1]; exact h2)) z
    · have hi2 : i = r.length := by
        have := (List.getElem?_eq_some_iff.1 hp).1
        simp at this
        omega
      subst hi2
      have : p = x := by simpa using hp.symm
      subst this
      exact atKey_put_same ht.isMap (kL_key p) _ _
theorem take_next_kv {ps : List KV} {k : Nat} {p : KV} (h : ps[k]? = some p) : ps.take (k + 1) = ps.take k ++ [p] := by
  obtain ⟨hk, rfl⟩ := List.getElem?_eq_some_iff.1 h
  exact List.take_succ_eq_append_getElem hk
theorem bmap_step {ps : List KV} {k : Nat} {p : KV} (h : ps[k]? = some p) : bmap (ps.take (k + 1)) = (bmap (ps.take k)).put (kL p) (vD p) := by rw [take_next_kv h, bmap_snoc]
end Go.Proofs.YtkdkjcljdagakaaGreatFmt
