/-
  sort.Sort over the elements: the row is sorted; conditions: those that each lemma names.
-/
import Derived.Test.YtmnoffiblcnjpaaPdq
import Derived.Test.YtmnoffiblcnjpaaShelf
namespace Go.Proofs.Ytmnoffiblcnjpaa
open Go.RowKit Go.Sort

theorem len_c : LenC := fun x w h0 h1 => Try.bits_Len x w h0 h1
set_option maxHeartbeats 4000000 in
set_option maxRecDepth 100000 in
theorem sort_any {w : World} {g N : Nat} {d : Array El} (hN : N ≤ 65536) (h : R w g N d w) : Calls Try.prog 11 #[dv g N] w (PdqPost w g N 0 N d w) := by
  have mN := meth_len g N
  have H := Lib.hid h
  clear h
  by_cases h1 : N ≤ 1
  · have h1' : (N : Int) ≤ 1 := by omega
    go_enter Try.func11, Try.ntmps11
    go_wp2
    go_end0
    exact ⟨d, rfl, H.out, Up.refl _ _, permIn_refl _ _ _, fun i j h1 h2 h3 => by omega⟩
  · have h1' : ¬ (N : Int) ≤ 1 := by omega
    have hk : bitsLen N ≤ 64 := (bitsLen_le_iff N 64).2 (by omega)
    have hl := fun w => len_c (N : Int) w (by omega) (by omega)
    rw [Int.toNat_natCast, bits_len _ (by omega)] at hl
    go_enter Try.func11, Try.ntmps11
    go_wp2_with (first
      | (go_at_call 56; refine (len_any g N _).mono ?_; rintro e w' ⟨rfl, rfl⟩)
      | (go_at_call 18; refine (hl _).mono ?_; rintro e w' ⟨rfl, rfl⟩)
      | (go_at_call 19; refine (pdq_all len_c hN (N + 1) 0 N (bitsLen N) d _ 0 N _ (by omega) (by omega) (by omega) hk rfl rfl rfl (Or.inl rfl) H.out).mono ?_; rintro e w2 ⟨d2, rfl, hR, hU, hP, hS⟩))
    go_end0
    exact ⟨d2, rfl, hR, hU, hP, hS⟩
end Go.Proofs.Ytmnoffiblcnjpaa
