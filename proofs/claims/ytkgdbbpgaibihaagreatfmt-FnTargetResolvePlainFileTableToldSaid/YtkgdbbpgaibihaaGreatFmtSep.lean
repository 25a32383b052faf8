/-
  Separators and what decoding one rune says of them; path.Join of a package's folder and a file; no program in sight (no conditions).
-/
import Derived.Lib.MapLaws
import Derived.Lib.TrimUEq
import Derived.Lib.TrimAscii
import Derived.Lib.Hide
import Derived.Lib.CleanSame
import GoSem.Claim
namespace Go.Proofs.YtkgdbbpgaibihaaGreatFmt
open Go.Lib

def sepB (b : UInt8) : Bool := b == 47 || b == 92
theorem sep_high {b : UInt8} (h : 128 ≤ b.toNat) : sepB b = false := by
  unfold sepB
  rw [Bool.or_eq_false_iff, beq_eq_false_iff_ne, beq_eq_false_iff_ne]
  refine ⟨fun e => ?_, fun e => ?_⟩ <;> subst e <;> exact absurd h (by decide)
theorem sep_iff (b : UInt8) : sepB b = true ↔ (b.toNat = 47 ∨ b.toNat = 92) := by
  unfold sepB
  rw [Bool.or_eq_true, beq_iff_eq, beq_iff_eq]
  constructor
  · rintro (rfl | rfl)
    · exact .inl rfl
    · exact .inr rfl
  · rintro (h | h)
    · exact .inl (UInt8.toNat_inj.1 h)
    · exact .inr (UInt8.toNat_inj.1 h)
theorem sep_not (b : UInt8) : sepB b = false ↔ (b.toNat ≠ 47 ∧ b.toNat ≠ 92) := by
  rw [Bool.eq_false_iff, ne_eq, sep_iff, not_or]
def Free (l : List UInt8) : Prop := ∀ b ∈ l, sepB b = false
theorem Free.not47 {l : List UInt8} (h : Free l) : (47 : UInt8) ∉ l := fun hm => absurd (h 47 hm) (by decide)

theorem getD_of {l : List UInt8} {j : Nat} {b : UInt8} (h : l[j]? = some b) : l.getD j 0 = b := by rw [List.getD_eq_getElem?_getD, h]; rfl

/-- The rune at a place: a separator, one byte wide; or the bytes that it takes hold none. -/
theorem first_facts (s : ByteArray) (pos : Nat) (b : UInt8) (hb : s.data.toList[pos]? = some b) :
    (sepB b = true → Utf8.decode s pos = (b.toNat, 1)) ∧
    (sepB b = false → (Utf8.decode s pos).1 ≠ 47 ∧ (Utf8.decode s pos).1 ≠ 92 ∧ ∀ j c, pos ≤ j → j < pos + (Utf8.decode s pos).2 → s.data.toList[j]? = some c → sepB c = false) := by
  have hone : sepB b = false → ∀ j c, pos ≤ j → j < pos + 1 → s.data.toList[j]? = some c → sepB c = false := fun h j c h1 h2 hc => by
    obtain rfl : j = pos := by omega
    rw [hb] at hc
    obtain rfl := Option.some.inj hc
    exact h
  have hb0 : b.toNat < 256 := UInt8.toNat_lt _
  rw [decode_N, getD_of hb]
  rcases decodeN_shape (s.data.toList.length - pos) b.toNat (s.data.toList.getD (pos + 1) 0).toNat (s.data.toList.getD (pos + 2) 0).toNat (s.data.toList.getD (pos + 3) 0).toNat with ⟨c, e⟩ | ⟨c1, c2, c3, cv, e⟩ | ⟨c1, c2, c3, c4, cv, cs, e⟩ | ⟨c1, c2, c3, c4, c5, cv, cw, e⟩ | e
  · rw [e]
    refine ⟨fun _ => rfl, fun h => ?_⟩
    have := (sep_not b).1 h
    exact ⟨this.1, this.2, hone h⟩
  · rw [e]
    have hnb : sepB b = false := sep_high (by omega)
    refine ⟨fun h => absurd h (by rw [hnb]; decide), fun h => ⟨by simp only; omega, by simp only; omega, fun j c h1 h2 hc => ?_⟩⟩
    by_cases hj : j = pos
    · exact hone hnb j c h1 (by omega) hc
    · obtain rfl : j = pos + 1 := by simp only at h2; omega
      rw [getD_of hc] at c3
      exact sep_high (by omega)
  · rw [e]
    have hnb : sepB b = false := sep_high (by omega)
    refine ⟨fun h => absurd h (by rw [hnb]; decide), fun h => ⟨by simp only; omega, by simp only; omega, fun j c h1 h2 hc => ?_⟩⟩
    by_cases hj : j = pos
    · exact hone hnb j c h1 (by omega) hc
    · by_cases hj1 : j = pos + 1
      · subst hj1
        rw [getD_of hc] at c3
        exact sep_high (by omega)
      · obtain rfl : j = pos + 2 := by simp only at h2; omega
        rw [getD_of hc] at c4
        exact sep_high (by omega)
  · rw [e]
    have hnb : sepB b = false := sep_high (by omega)
    refine ⟨fun h => absurd h (by rw [hnb]; decide), fun h => ⟨by simp only; omega, by simp only; omega, fun j c h1 h2 hc => ?_⟩⟩
    by_cases hj : j = pos
    · exact hone hnb j c h1 (by omega) hc
    · by_cases hj1 : j = pos + 1
      · subst hj1
        rw [getD_of hc] at c3
        exact sep_high (by omega)
      · by_cases hj2 : j = pos + 2
        · subst hj2
          rw [getD_of hc] at c4
          exact sep_high (by omega)
        · obtain rfl : j = pos + 3 := by simp only at h2; omega
          rw [getD_of hc] at c5
          exact sep_high (by omega)
  · have h128 : 128 ≤ b.toNat := by
      refine Nat.le_of_not_lt fun h => ?_
      rw [decodeN_ascii _ _ _ _ _ h] at e
      have := congrArg Prod.fst e
      simp only at this
      omega
    rw [e]
    have hnb : sepB b = false := sep_high h128
    exact ⟨fun h => absurd h (by rw [hnb]; decide), fun h => ⟨by decide, by decide, hone hnb⟩⟩

/-! ### path.Join -/
theorem els_free : ∀ a : List UInt8, (47 : UInt8) ∉ a → Pa.els a = [a]
  | [], _ => rfl
  | c :: t, h => by
    have h1 : c ≠ 47 := fun e => h (by rw [e]; exact List.mem_cons_self ..)
    rw [Pa.els, if_neg h1, els_free t fun e => h (List.mem_cons_of_mem _ e)]
theorem els_cut (r : List UInt8) : ∀ a : List UInt8, (47 : UInt8) ∉ a → Pa.els (a ++ 47 :: r) = a :: Pa.els r
  | [], _ => by rw [List.nil_append, Pa.els, if_pos rfl]
  | c :: t, h => by
    have h1 : c ≠ 47 := fun e => h (by rw [e]; exact List.mem_cons_self ..)
    rw [List.cons_append, Pa.els, if_neg h1, els_cut r t fun e => h (List.mem_cons_of_mem _ e)]

/-- A name that path.Clean keeps as it is. -/
structure Keep (a : List UInt8) : Prop where
  ne : a ≠ []
  dot : a ≠ [46]
  dots : a ≠ [46, 46]
  free : (47 : UInt8) ∉ a
theorem step_keep {a : List UInt8} (h : Keep a) (st : List (List UInt8)) : Pa.cleanStep true st a = a :: st := by
  unfold Pa.cleanStep
  rw [if_neg (by rintro (e | e); exact h.ne e; exact h.dot e), if_neg h.dots]

theorem clean_dot {p f : List UInt8} (hp : Keep p) (hf : Keep f) : Pa.clean (47 :: (p ++ 47 :: (46 :: 47 :: f))) = 47 :: (p ++ 47 :: f) := by
  have e : Pa.els (47 :: (p ++ 47 :: (46 :: 47 :: f))) = [[], p, [46], f] := by
    rw [Pa.els, if_pos rfl, els_cut _ p hp.free, show (46 : UInt8) :: 47 :: f = [46] ++ 47 :: f from rfl, els_cut _ _ (by decide), els_free f hf.free]
  rw [Pa.clean_eq_cleanEls, Pa.cleanEls_abs _ (by simp) rfl, e]
  have h0 : Pa.cleanStep true [] [] = [] := by simp [Pa.cleanStep]
  have h2 : Pa.cleanStep true [p] [46] = [p] := by simp [Pa.cleanStep]
  rw [List.foldl_cons, h0, List.foldl_cons, step_keep hp, List.foldl_cons, h2, List.foldl_cons, step_keep hf, List.foldl_nil]
  simp [List.intercalate]
theorem clean_two {p f : List UInt8} (hp : Keep p) (hf : Keep f) : Pa.clean (47 :: (p ++ 47 :: f)) = 47 :: (p ++ 47 :: f) := by
  have e : Pa.els (47 :: (p ++ 47 :: f)) = [[], p, f] := by
    rw [Pa.els, if_pos rfl, els_cut _ p hp.free, els_free f hf.free]
  rw [Pa.clean_eq_cleanEls, Pa.cleanEls_abs _ (by simp) rfl, e]
  have h0 : Pa.cleanStep true [] [] = [] := by simp [Pa.cleanStep]
  rw [List.foldl_cons, h0, List.foldl_cons, step_keep hp, List.foldl_cons, step_keep hf, List.foldl_nil]
  simp [List.intercalate]
theorem join_dot {p f : List UInt8} (hp : Keep p) (hf : Keep f) : Pa.join [47 :: p, 46 :: 47 :: f] = 47 :: (p ++ 47 :: f) := by
  unfold Pa.join
  have e : [47 :: p, 46 :: 47 :: f].filter (· ≠ []) = [47 :: p, 46 :: 47 :: f] := by simp
  rw [e, if_neg (by simp)]
  have e2 : ([47] : List UInt8).intercalate [47 :: p, 46 :: 47 :: f] = 47 :: (p ++ 47 :: (46 :: 47 :: f)) := by simp [List.intercalate]
  rw [e2, clean_dot hp hf]
theorem join_one {p f : List UInt8} (hp : Keep p) (hf : Keep f) : Pa.join [47 :: (p ++ 47 :: f), []] = 47 :: (p ++ 47 :: f) := by
  unfold Pa.join
  have e : [47 :: (p ++ 47 :: f), []].filter (· ≠ []) = [47 :: (p ++ 47 :: f)] := by simp
  rw [e, if_neg (by simp)]
  have e2 : ([47] : List UInt8).intercalate [47 :: (p ++ 47 :: f)] = 47 :: (p ++ 47 :: f) := by simp [List.intercalate]
  rw [e2, clean_two hp hf]

end Go.Proofs.YtkgdbbpgaibihaaGreatFmt
