/-
  Where a text's last slash or backslash is, and what decoding the last rune says of it; no program in sight (no conditions).
-/
import Derived.Lib.MapLaws
import Derived.Lib.TrimUEq
import Derived.Lib.Hide
import GoSem.Claim
namespace Go.Proofs.YtejdbjfniepomaaDoor
open Go.Lib

def sepB (b : UInt8) : Bool := b == 47 || b == 92
theorem sep_high {b : UInt8} (h : 128 ≤ b.toNat) : sepB b = false := by
  unfold sepB
  rw [Bool.or_eq_false_iff, beq_eq_false_iff_ne, beq_eq_false_iff_ne]
  refine ⟨fun e => ?_, fun e => ?_⟩ <;> subst e <;> exact absurd h (by decide)
theorem sep_iff (b : UInt8) : sepB b = true ↔ (b.toNat = 47 ∨ b.toNat = 92) := by
  unfold sepB
  rw [Bool.or_eq_true, beq_iff_eq, beq_iff_eq]
  constructor
  · rintro (rfl | rfl)
    · exact .inl rfl
    · exact .inr rfl
  · rintro (h | h)
    · exact .inl (UInt8.toNat_inj.1 h)
    · exact .inr (UInt8.toNat_inj.1 h)
def NoSepFrom (l : List UInt8) (i : Nat) : Prop := ∀ j b, i ≤ j → l[j]? = some b → sepB b = false
def IsLast (l : List UInt8) (r : Int) : Prop := (r = -1 ∧ NoSepFrom l 0) ∨ ∃ (k : Nat) (b : UInt8), r = (k : Int) ∧ l[k]? = some b ∧ sepB b = true ∧ NoSepFrom l (k + 1)
theorem NoSepFrom.all (l : List UInt8) (i : Nat) (h : l.length ≤ i) : NoSepFrom l i := fun j b hj hb => by
  have := (List.getElem?_eq_some_iff.1 hb).1
  omega
theorem NoSepFrom.down {l : List UInt8} {i : Nat} {b : UInt8} (h : NoSepFrom l (i + 1)) (hb : l[i]? = some b) (hs : sepB b = false) : NoSepFrom l i := fun j c hj hc => by
  by_cases e : j = i
  · subst e
    rw [hb] at hc
    obtain rfl := Option.some.inj hc
    exact hs
  · exact h j c (by omega) hc

theorem getD_of {l : List UInt8} {j : Nat} {b : UInt8} (h : l[j]? = some b) : l.getD j 0 = b := by rw [List.getD_eq_getElem?_getD, h]; rfl
theorem get_of {l : List UInt8} {j : Nat} (h : j < l.length) : l[j]? = some (l.getD j 0) := by rw [List.getD_eq_getElem?_getD, List.getElem?_eq_getElem h]; rfl

theorem valid_nat (v : Nat) (h : v < 55296 ∨ 57344 ≤ v) (h2 : v ≤ 1114111) : Utf8.valid (v : Int) = true := by simp [Utf8.valid]; omega

/-- The last rune: a separator, one byte wide; or the bytes that it takes hold none. -/
theorem last_facts (x : List UInt8) (hne : x ≠ []) : 1 ≤ (decodeLastL x).2 ∧ (decodeLastL x).2 ≤ x.length ∧ (128 ≤ (decodeLastL x).1 → Utf8.valid ((decodeLastL x).1 : Int) = true) ∧
    (((decodeLastL x).1 = 47 ∨ (decodeLastL x).1 = 92) → (decodeLastL x).2 = 1 ∧ sepB (x.getD (x.length - 1) 0) = true) ∧
    (¬ ((decodeLastL x).1 = 47 ∨ (decodeLastL x).1 = 92) → ∀ j b, x.length - (decodeLastL x).2 ≤ j → x[j]? = some b → sepB b = false) := by
  have hl : 0 < x.length := List.length_pos_iff.2 hne
  have hlast : ∀ j b, x.length - 1 ≤ j → x[j]? = some b → b = x.getD (x.length - 1) 0 := fun j b hj hb => by
    have h1 := (List.getElem?_eq_some_iff.1 hb).1
    obtain rfl : j = x.length - 1 := by omega
    exact (getD_of hb).symm
  unfold decodeLastL
  rw [if_neg hne]
  by_cases h128 : (x.getD (x.length - 1) 0).toNat < 128
  · rw [if_pos h128]
    refine ⟨Nat.le_refl _, hl, fun h => by simp only at h; omega, fun h => ⟨rfl, (sep_iff _).2 h⟩, fun h j b hj hb => ?_⟩
    rw [hlast j b hj hb]
    exact Bool.eq_false_iff.2 fun e => h ((sep_iff _).1 e)
  · rw [if_neg h128]
    have hone : ∀ j b, x.length - 1 ≤ j → x[j]? = some b → sepB b = false := fun j b hj hb => by
      rw [hlast j b hj hb]
      exact sep_high (by omega)
    have herr : 1 ≤ 1 ∧ 1 ≤ x.length ∧ (128 ≤ 65533 → Utf8.valid ((65533 : Nat) : Int) = true) ∧ ((65533 = 47 ∨ 65533 = 92) → 1 = 1 ∧ sepB (x.getD (x.length - 1) 0) = true) ∧ (¬ (65533 = 47 ∨ 65533 = 92) → ∀ j b, x.length - 1 ≤ j → x[j]? = some b → sepB b = false) :=
      ⟨Nat.le_refl _, hl, fun _ => by decide, fun h => by omega, fun _ => hone⟩
    dsimp only
    split
    · rename_i hst
      obtain ⟨st, hst0⟩ : ∃ st, lastStart x = st := ⟨_, rfl⟩
      rw [hst0] at hst ⊢
      have hyl : (x.drop st).length = x.length - st := List.length_drop
      have hg : ∀ k, (x.drop st).getD k 0 = x.getD (st + k) 0 := fun k => getD_dropU x st k
      rw [decodeL_N] at hst ⊢
      rw [hg, hg, hg, hg, hyl, Nat.add_zero] at hst ⊢
      rcases decodeN_shape (x.length - st) (x.getD st 0).toNat (x.getD (st + 1) 0).toNat (x.getD (st + 2) 0).toNat (x.getD (st + 3) 0).toNat with ⟨c, e⟩ | ⟨c1, c2, c3, cv, e⟩ | ⟨c1, c2, c3, c4, cv, cs, e⟩ | ⟨c1, c2, c3, c4, c5, cv, cw, e⟩ | e
      · rw [e] at hst
        simp only at hst
        exfalso
        rw [show x.length - 1 = st by omega] at h128
        omega
      · rw [e] at hst ⊢
        simp only at hst ⊢
        refine ⟨by omega, by omega, fun _ => ?_, fun h => by omega, fun _ j b hj hb => ?_⟩
        · exact valid_nat _ (by omega) (by omega)
        · have h1 := (List.getElem?_eq_some_iff.1 hb).1
          rcases (show j = st ∨ j = st + 1 by omega) with rfl | rfl
          · rw [← getD_of hb]; exact sep_high (by omega)
          · rw [← getD_of hb]; exact sep_high (by omega)
      · rw [e] at hst ⊢
        simp only at hst ⊢
        refine ⟨by omega, by omega, fun _ => ?_, fun h => by omega, fun _ j b hj hb => ?_⟩
        · exact valid_nat _ (by omega) (by omega)
        · have h1 := (List.getElem?_eq_some_iff.1 hb).1
          rcases (show j = st ∨ j = st + 1 ∨ j = st + 2 by omega) with rfl | rfl | rfl
          · rw [← getD_of hb]; exact sep_high (by omega)
          · rw [← getD_of hb]; exact sep_high (by omega)
          · rw [← getD_of hb]; exact sep_high (by omega)
      · rw [e] at hst ⊢
        simp only at hst ⊢
        refine ⟨by omega, by omega, fun _ => ?_, fun h => by omega, fun _ j b hj hb => ?_⟩
        · exact valid_nat _ (by omega) (by omega)
        · have h1 := (List.getElem?_eq_some_iff.1 hb).1
          rcases (show j = st ∨ j = st + 1 ∨ j = st + 2 ∨ j = st + 3 by omega) with rfl | rfl | rfl | rfl
          · rw [← getD_of hb]; exact sep_high (by omega)
          · rw [← getD_of hb]; exact sep_high (by omega)
          · rw [← getD_of hb]; exact sep_high (by omega)
          · rw [← getD_of hb]; exact sep_high (by omega)
      · rw [e]
        exact herr
    · exact herr

end Go.Proofs.YtejdbjfniepomaaDoor
