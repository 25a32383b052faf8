/-
  The walk of the byte-scan law; conditions: what the listed tables hold.
-/
import Derived.Test.YtonimbfpdajblaaDoorWalkB
namespace Go.Proofs.YtonimbfpdajblaaDoor
open Go.RowKit

set_option maxHeartbeats 400000 in
theorem model_none (s tag : ByteArray) (w : World) (ht : tag.toList.isEmpty = true) : Calls Tryd.prog 8 #[.string s, .string tag] w fun e w' => e = .returned (.string s) ∧ w = w' := by
  have h0 : ((tag.size : Int) == 0) = true := by
    rw [beq_iff_eq, Lib.size_eq]
    rw [Lib.toList_data, List.isEmpty_iff] at ht
    rw [ht]
    rfl
  go_enter Tryd.func8, Tryd.ntmps8
  go_wp2
  go_ret
  exact ⟨rfl, rfl⟩
set_option maxHeartbeats 400000 in
theorem esc_empty (s tag : ByteArray) (w : World) (ht : tag.toList.isEmpty = true) : Calls Tryd.prog 7 #[.string s, .string tag] w fun e w' => e = .returned (.string s) ∧ w = w' := by
  go_enter Tryd.func7, Tryd.ntmps7
  go_wp2
  go_ret
  exact ⟨rfl, rfl⟩

theorem tag_size {tag : ByteArray} (h : tag.toList.isEmpty = false) : 1 ≤ tag.size := by
  rw [Lib.size_eq]
  rw [Lib.toList_data, List.isEmpty_eq_false_iff] at h
  exact List.length_pos_iff.2 h

set_option maxHeartbeats 800000 in
theorem fnEscapeClosingTagMatchesByteScan_walk (s tag : ByteArray) (w : World) (_hs : s.size ≤ maxLen) (_ht : tag.size ≤ maxLen) (hT : Tabs w) :
    Calls Tryd.prog 3 #[.string s, .string tag] w fun e w' => e = .returned (.bool true) ∧ Below w.heap.size w w' := by
  unfold maxLen at _hs _ht
  have HT := Lib.hid hT
  clear hT
  by_cases hsum : s.size + tag.size ≤ 1048576
  · by_cases h1 : s.size ≤ 65536
    · by_cases h2 : tag.size ≤ 4096
      · go_enter Tryd.func3, Tryd.ntmps3
        go_wp2_with (go_at_call 5; refine (zz5_yes s tag _ hsum).mono ?_; rintro e w' ⟨rfl, rfl⟩)
        refine (ascii_any tag _ (by omega)).mono ?_
        rintro e w' ⟨⟨b, rfl, hA⟩, rfl⟩
        cases b
        · go_wp2_with fail
          go_ret
          exact ⟨rfl, Below.refl _ _⟩
        · have HA := Lib.hid (hA rfl)
          clear hA
          cases he : tag.toList.isEmpty
          · have h3 := tag_size he
            go_wp2_with fail
            refine (esc_any s tag _ HT.out (by omega) h3 (by omega) HA.out).mono ?_
            rintro e w1 ⟨rfl, hb1⟩
            go_wp2_with fail
            refine (model_any s tag _ (by omega) h3 (by omega)).mono ?_
            rintro e w2 ⟨rfl, hb2⟩
            go_wp2_with fail
            go_ret
            exact ⟨rfl, hb1.trans (hb2.mono hb1.size)⟩
          · go_wp2_with fail
            refine (esc_empty s tag _ he).mono ?_
            rintro e w' ⟨rfl, rfl⟩
            go_wp2_with fail
            refine (model_none s tag _ he).mono ?_
            rintro e w' ⟨rfl, rfl⟩
            go_wp2_with fail
            go_ret
            exact ⟨rfl, Below.refl _ _⟩
      · go_enter Tryd.func3, Tryd.ntmps3
        go_wp2_with (go_at_call 5; refine (zz5_yes s tag _ hsum).mono ?_; rintro e w' ⟨rfl, rfl⟩)
        go_ret
        exact ⟨rfl, Below.refl _ _⟩
    · go_enter Tryd.func3, Tryd.ntmps3
      go_wp2_with (go_at_call 5; refine (zz5_yes s tag _ hsum).mono ?_; rintro e w' ⟨rfl, rfl⟩)
      go_ret
      exact ⟨rfl, Below.refl _ _⟩
  · go_enter Tryd.func3, Tryd.ntmps3
    go_wp2_with (go_at_call 5; refine (zz5_no s tag _ (by omega)).mono ?_; rintro e w' ⟨rfl, rfl⟩)
    go_ret
    exact ⟨rfl, Below.refl _ _⟩

end Go.Proofs.YtonimbfpdajblaaDoor
