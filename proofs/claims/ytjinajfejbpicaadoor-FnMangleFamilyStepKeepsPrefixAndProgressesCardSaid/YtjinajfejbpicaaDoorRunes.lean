/-
  A text's runes, one after the other, and a text made of runes; no program in sight (no conditions).
-/
import Derived.Test.YtjinajfejbpicaaDoorLower
namespace Go.Proofs.YtjinajfejbpicaaDoor
open Go.Lib

def runesF : Nat → List UInt8 → List Int
  | 0, _ => []
  | n + 1, l => if l = [] then [] else ((decodeL l).1 : Int) :: runesF n (l.drop (decodeL l).2)
def runesL (l : List UInt8) : List Int := runesF l.length l
theorem runesF_fuel : ∀ (n m : Nat) (l : List UInt8), l.length ≤ n → l.length ≤ m → runesF n l = runesF m l
  | 0, m, l, h, _ => by
    obtain rfl : l = [] := List.eq_nil_of_length_eq_zero (by omega)
    cases m with
    | zero => rfl
    | succ m => simp [runesF]
  | n + 1, 0, l, _, h => by
    obtain rfl : l = [] := List.eq_nil_of_length_eq_zero (by omega)
    simp [runesF]
  | n + 1, m + 1, l, h, h' => by
    rw [runesF, runesF]
    by_cases hne : l = []
    · rw [if_pos hne, if_pos hne]
    · have hw := decodeL_width l
      have hl : 0 < l.length := List.length_pos_iff.2 hne
      rw [if_neg hne, if_neg hne, runesF_fuel n m _ (by rw [List.length_drop]; omega) (by rw [List.length_drop]; omega)]
theorem runesL_nil : runesL [] = [] := rfl
theorem runesL_step (l : List UInt8) (hne : l ≠ []) : runesL l = ((decodeL l).1 : Int) :: runesL (l.drop (decodeL l).2) := by
  have hw := decodeL_width l
  have hl : 0 < l.length := List.length_pos_iff.2 hne
  obtain ⟨n, hn⟩ : ∃ n, l.length = n + 1 := ⟨l.length - 1, by omega⟩
  unfold runesL
  rw [hn, runesF, if_neg hne, runesF_fuel n _ _ (by rw [List.length_drop]; omega) (Nat.le_refl _)]
theorem runesL_valid : ∀ (n : Nat) (l : List UInt8), l.length ≤ n → ∀ r ∈ runesL l, Valid r
  | 0, l, h, r, hr => by
    obtain rfl : l = [] := List.eq_nil_of_length_eq_zero (by omega)
    cases hr
  | n + 1, l, h, r, hr => by
    by_cases hne : l = []
    · subst hne
      cases hr
    · have hw := decodeL_width l
      have hl : 0 < l.length := List.length_pos_iff.2 hne
      rw [runesL_step l hne] at hr
      rcases List.mem_cons.1 hr with rfl | hr
      · exact decode_valid l
      · exact runesL_valid n _ (by rw [List.length_drop]; omega) r hr
theorem runesL_encode : ∀ rs : List Int, (∀ r ∈ rs, Valid r) → runesL (rs.flatMap encodeRune) = rs
  | [], _ => rfl
  | r :: rs, h => by
    have hv := h r List.mem_cons_self
    rw [List.flatMap_cons, runesL_step _ (by intro e; exact encode_ne r (List.append_eq_nil_iff.1 e).1), decode_encode r hv]
    dsimp only
    rw [List.drop_left, runesL_encode rs fun x hx => h x (List.mem_cons_of_mem _ hx), show ((r.toNat : Nat) : Int) = r by have := hv.1; omega]

end Go.Proofs.YtjinajfejbpicaaDoor
