/-
  The contracts of zzNorm and zzCaresModel; conditions: the range of an int8.
-/
import Derived.Test.YtolpgogmbebmcaaRows
import Derived.WalkKit
import Derived.WalkSpells
import Derived.WalkLawsBesides
import Derived.Lib.Hide
namespace Go.Proofs.Ytolpgogmbebmcaa
open Go.RowKit

theorem ret_int {k : IntKind} {a b : Int} (h : a = b) : Ending.returned (.int k a) = .returned (.int k b) := by rw [h]
theorem ret_bool {a b : Bool} (h : a = b) : Ending.returned (.bool a) = .returned (.bool b) := by rw [h]

/-- The kind of a code. -/
def norm (c : Int) : Nat := (c % 26).toNat
theorem norm_le (c : Int) : norm c ≤ 25 := by unfold norm; omega
theorem tmod_low (c : Int) : -26 < c.tmod 26 := by
  by_cases hc : 0 ≤ c
  · rw [Int.tmod_eq_emod_of_nonneg hc]; omega
  · have e : c.tmod 26 = -((-c) % 26) := by
      have h1 : (-c).tmod 26 = (-c) % 26 := Int.tmod_eq_emod_of_nonneg (by omega)
      rw [← h1, Int.neg_tmod]; omega
    rw [e]; omega
theorem norm_neg (c : Int) (h : c.tmod 26 < 0) : c.tmod 26 + 26 = (norm c : Int) := by
  unfold norm
  by_cases hc : 0 ≤ c
  · rw [Int.tmod_eq_emod_of_nonneg hc] at h; omega
  · have e : c.tmod 26 = -((-c) % 26) := by
      have h1 : (-c).tmod 26 = (-c) % 26 := Int.tmod_eq_emod_of_nonneg (by omega)
      rw [← h1, Int.neg_tmod]; omega
    rw [e] at h ⊢; omega
theorem norm_pos (c : Int) (h : ¬ c.tmod 26 < 0) : c.tmod 26 = (norm c : Int) := by
  unfold norm
  by_cases hc : 0 ≤ c
  · rw [Int.tmod_eq_emod_of_nonneg hc]; omega
  · have e : c.tmod 26 = -((-c) % 26) := by
      have h1 : (-c).tmod 26 = (-c) % 26 := Int.tmod_eq_emod_of_nonneg (by omega)
      rw [← h1, Int.neg_tmod]; omega
    rw [e] at h ⊢; omega

set_option maxHeartbeats 400000 in
theorem norm_any (c : Int) (w : World) (h1 : -128 ≤ c) (h2 : c ≤ 127) : Calls Try.prog 8 #[.int .i8 c] w fun e w' => e = .returned (.int .i64 (norm c : Int)) ∧ w = w' := by
  have hb1 : -26 < c.tmod 26 := tmod_low c
  have hb2 : c.tmod 26 < 26 := Int.tmod_lt_of_pos c (by omega)
  by_cases hn : c.tmod 26 < 0
  · go_enter Try.func8, Try.ntmps8
    go_wp2
    go_ret
    exact ⟨ret_int (norm_neg c hn), rfl⟩
  · go_enter Try.func8, Try.ntmps8
    go_wp2
    go_ret
    exact ⟨ret_int (norm_pos c (by omega)), rfl⟩

set_option maxHeartbeats 400000 in
theorem model_any (k : Nat) (w : World) : Calls Try.prog 11 #[.int .i64 (k : Int)] w fun e w' => e = .returned (.bool (decide (20 ≤ k))) ∧ w = w' := by
  go_enter Try.func11, Try.ntmps11
  go_wp2
  go_ret
  exact ⟨ret_bool (decide_eq_decide.2 (by omega)), rfl⟩

end Go.Proofs.Ytolpgogmbebmcaa
