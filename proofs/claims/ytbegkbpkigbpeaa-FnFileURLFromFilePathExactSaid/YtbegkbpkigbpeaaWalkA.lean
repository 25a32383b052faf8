/-
  The walks of three laws on file URLs: idempotent, accepted by the test, exact; conditions: none (an input beyond the size guard answers at once).
-/
import Derived.Test.YtbegkbpkigbpeaaParts
namespace Go.Proofs.Ytbegkbpkigbpeaa
open Go.RowKit

set_option maxHeartbeats 400000 in
theorem zz6_small (s : ByteArray) (w : World) (hs : s.size ≤ 1048576) : Calls Try.prog 6 #[.string s] w fun e w' => e = .returned (.bool true) ∧ w = w' := by
  go_enter Try.func6, Try.ntmps6
  go_wp2
  go_ret
  exact ⟨rfl, rfl⟩
set_option maxHeartbeats 400000 in
theorem zz6_large (s : ByteArray) (w : World) (hs : 1048576 < s.size) : Calls Try.prog 6 #[.string s] w fun e w' => e = .returned (.bool false) ∧ w = w' := by
  go_enter Try.func6, Try.ntmps6
  go_wp2
  go_ret
  exact ⟨rfl, rfl⟩
set_option maxHeartbeats 400000 in
theorem zz10_small (s : ByteArray) (w : World) (hs : s.size ≤ 1048576) : Calls Try.prog 10 #[.string s] w fun e w' => e = .returned (.bool true) ∧ w = w' := by
  go_enter Try.func10, Try.ntmps10
  go_wp2
  go_ret
  exact ⟨rfl, rfl⟩
set_option maxHeartbeats 400000 in
theorem zz10_large (s : ByteArray) (w : World) (hs : 1048576 < s.size) : Calls Try.prog 10 #[.string s] w fun e w' => e = .returned (.bool false) ∧ w = w' := by
  go_enter Try.func10, Try.ntmps10
  go_wp2
  go_ret
  exact ⟨rfl, rfl⟩

theorem S_get (l : List UInt8) (i : Nat) (c : UInt8) (h : l[i]? = some c) : ∃ h' : i < (S l).size, (S l)[i]'h' = c := by
  have h1 : i < (S l).size := by rw [S_size]; exact (List.getElem?_eq_some_iff.1 h).1
  refine ⟨h1, ?_⟩
  have h2 := Lib.data_getElem? (S l) i h1
  rw [S_data, h] at h2
  exact (Option.some.inj h2).symm

theorem upath_get0 (l : List UInt8) : (upath l)[0]? = some 47 := by
  rw [← List.head?_eq_getElem?]
  exact upath_head l

set_option maxHeartbeats 1000000 in
theorem fnFileURLFromFilePathIdempotent_walk (s : ByteArray) (w : World) (_hs : s.size ≤ maxLen) :
    Calls Try.prog 3 #[.string s] w fun e w' => e = .returned (.bool true) ∧ Below w.heap.size w w' := by
  unfold maxLen at _hs
  by_cases hs : s.size ≤ 1048576
  · have hlen := upath_length s.data.toList
    rw [← Lib.size_eq] at hlen
    obtain ⟨h0, h1⟩ := S_get _ 0 47 (upath_get0 s.data.toList)
    have HTW := Lib.hid (upath_twice s.data.toList)
    have hc : (((S (upath s.data.toList))[0].toNat : Int) == 47) = true := by rw [h1]; rfl
    clear h1
    by_cases hs2 : s.size ≤ 524288
    · go_enter Try.func3, Try.ntmps3
      go_wp2_with fail
      refine (zz6_small s _ hs).mono ?_
      rintro e w' ⟨rfl, rfl⟩
      go_wp2_with fail
      refine (parts_any s _ (by omega)).mono ?_
      rintro e w1 ⟨rfl, hb1⟩
      unfold parts
      go_wp2_with fail
      refine (parts_any (S (upath s.data.toList)) _ (by rw [S_size]; omega)).mono ?_
      rintro e w2 ⟨rfl, hb2⟩
      rw [S_data, HTW.out]
      unfold parts
      have hpos : (0 : Int) < ((S (upath s.data.toList)).size : Int) := by omega
      go_wp2_with fail
      go_ret
      exact ⟨by simp, hb1.trans (hb2.mono hb1.size)⟩
    · go_enter Try.func3, Try.ntmps3
      go_wp2_with fail
      refine (zz6_small s _ hs).mono ?_
      rintro e w' ⟨rfl, rfl⟩
      go_wp2_with fail
      go_ret
      exact ⟨rfl, Below.refl _ _⟩
  · go_enter Try.func3, Try.ntmps3
    go_wp2_with fail
    refine (zz6_large s _ (by omega)).mono ?_
    rintro e w' ⟨rfl, rfl⟩
    go_wp2_with fail
    go_ret
    exact ⟨rfl, Below.refl _ _⟩

end Go.Proofs.Ytbegkbpkigbpeaa
