/-
  The walk of the law that every made URL is accepted by the test; conditions: none (an input beyond the size guard answers at once).
-/
import Derived.Test.YtbegkbpkigbpeaaWalkA
namespace Go.Proofs.Ytbegkbpkigbpeaa
open Go.RowKit

set_option maxHeartbeats 400000 in
theorem isURL_none (p : ByteArray) (w : World) (hs : p.size ≤ 134217728) (hp : Lib.hasPrefix p.data.toList [47] = true) :
    Calls Try.prog 9 #[.string ⟨#[102, 105, 108, 101]⟩, .string ⟨#[]⟩, .string p] w fun e w' => e = .returned (.bool true) ∧ Below w.heap.size w w' := by
  have HP := Lib.hid hp
  clear hp
  go_enter Try.func9, Try.ntmps9
  go_wp2_with (first | (go_at_call 14; refine (hasPrefix_val p ⟨#[47]⟩ true _ (by omega) (by decide) HP.out).mono ?_; rintro e w' ⟨rfl, rfl⟩) | go_in)
  go_ret
  exact ⟨rfl, (Below.refl _ _).alloc (Nat.le_refl _) _⟩
set_option maxHeartbeats 400000 in
theorem isURL_local (p : ByteArray) (w : World) (hs : p.size ≤ 134217728) (hp : Lib.hasPrefix p.data.toList [47] = true) :
    Calls Try.prog 9 #[.string ⟨#[102, 105, 108, 101]⟩, .string ⟨#[108, 111, 99, 97, 108, 104, 111, 115, 116]⟩, .string p] w fun e w' => e = .returned (.bool true) ∧ Below w.heap.size w w' := by
  have HP := Lib.hid hp
  clear hp
  go_enter Try.func9, Try.ntmps9
  go_wp2_with (first | (go_at_call 14; refine (hasPrefix_val p ⟨#[47]⟩ true _ (by omega) (by decide) HP.out).mono ?_; rintro e w' ⟨rfl, rfl⟩) | go_in)
  go_ret
  exact ⟨rfl, (Below.refl _ _).alloc (Nat.le_refl _) _⟩
set_option maxHeartbeats 400000 in
theorem isURL_host (h p : ByteArray) (w : World) (h1 : h.toList.isEmpty = false) (h2 : (h.toList == [108, 111, 99, 97, 108, 104, 111, 115, 116]) = false) :
    Calls Try.prog 9 #[.string ⟨#[102, 105, 108, 101]⟩, .string h, .string p] w fun e w' => e = .returned (.bool false) ∧ Below w.heap.size w w' := by
  go_enter Try.func9, Try.ntmps9
  go_wp2
  go_ret
  exact ⟨rfl, (Below.refl _ _).alloc (Nat.le_refl _) _⟩
set_option maxHeartbeats 400000 in
theorem isURL_scheme (p : ByteArray) (w : World) :
    Calls Try.prog 9 #[.string ⟨#[70, 73, 76, 69]⟩, .string ⟨#[]⟩, .string p] w fun e w' => e = .returned (.bool false) ∧ Below w.heap.size w w' := by
  go_enter Try.func9, Try.ntmps9
  go_wp2
  go_ret
  exact ⟨rfl, (Below.refl _ _).alloc (Nat.le_refl _) _⟩

set_option maxHeartbeats 400000 in
theorem zz8_small (s h : ByteArray) (w : World) (hs : s.size + h.size ≤ 1048576) : Calls Try.prog 8 #[.string s, .string h] w fun e w' => e = .returned (.bool true) ∧ w = w' := by
  go_enter Try.func8, Try.ntmps8
  go_wp2
  go_ret
  exact ⟨rfl, rfl⟩
set_option maxHeartbeats 400000 in
theorem zz8_large (s h : ByteArray) (w : World) (hs : 1048576 < s.size + h.size) (h1 : s.size ≤ 9223372036854775807) (h2 : h.size ≤ 9223372036854775807) : Calls Try.prog 8 #[.string s, .string h] w fun e w' => e = .returned (.bool false) ∧ w = w' := by
  by_cases a : s.size ≤ 1048576
  · by_cases b : h.size ≤ 1048576
    · go_enter Try.func8, Try.ntmps8
      go_wp2
      go_ret
      exact ⟨rfl, rfl⟩
    · go_enter Try.func8, Try.ntmps8
      go_wp2
      go_ret
      exact ⟨rfl, rfl⟩
  · go_enter Try.func8, Try.ntmps8
    go_wp2
    go_ret
    exact ⟨rfl, rfl⟩

set_option maxHeartbeats 1000000 in
theorem fnIsFileURLAcceptsEveryMadeURL_walk (s h : ByteArray) (w : World) (_hs : s.size ≤ maxLen) (_hh : h.size ≤ maxLen) :
    Calls Try.prog 4 #[.string s, .string h] w fun e w' => e = .returned (.bool true) ∧ Below w.heap.size w w' := by
  unfold maxLen at _hs _hh
  by_cases hs : s.size + h.size ≤ 1048576
  · by_cases g1 : s.size ≤ 524288
    · by_cases g2 : h.size ≤ 524288
      · by_cases g3 : h.toList.isEmpty = true
        · go_enter Try.func4, Try.ntmps4
          go_wp2_with fail
          refine (zz8_small s h _ hs).mono ?_
          rintro e w' ⟨rfl, rfl⟩
          go_wp2_with fail
          go_ret
          exact ⟨rfl, Below.refl _ _⟩
        · have g3' : h.toList.isEmpty = false := by simpa using g3
          clear g3
          by_cases g4 : (h.toList == [108, 111, 99, 97, 108, 104, 111, 115, 116]) = true
          · go_enter Try.func4, Try.ntmps4
            go_wp2_with fail
            refine (zz8_small s h _ hs).mono ?_
            rintro e w' ⟨rfl, rfl⟩
            go_wp2_with fail
            go_ret
            exact ⟨rfl, Below.refl _ _⟩
          · have g4' : (h.toList == [108, 111, 99, 97, 108, 104, 111, 115, 116]) = false := by simpa using g4
            clear g4
            have hlen := upath_length s.data.toList
            rw [← Lib.size_eq] at hlen
            have hsz : (S (upath s.data.toList)).size ≤ 134217728 := by rw [S_size]; omega
            have HP := Lib.hid (show Lib.hasPrefix (S (upath s.data.toList)).data.toList [47] = true by rw [S_data]; exact (hasPrefix_slash _).2 (upath_head _))
            go_enter Try.func4, Try.ntmps4
            go_wp2_with fail
            refine (zz8_small s h _ hs).mono ?_
            rintro e w' ⟨rfl, rfl⟩
            go_wp2_with fail
            refine (parts_any s _ (by omega)).mono ?_
            rintro e w1 ⟨rfl, hb1⟩
            unfold parts
            go_wp2_with fail
            refine (isURL_none (S (upath s.data.toList)) _ hsz HP.out).mono ?_
            rintro e w2 ⟨rfl, hb2⟩
            go_wp2_with fail
            refine (isURL_local (S (upath s.data.toList)) _ hsz HP.out).mono ?_
            rintro e w3 ⟨rfl, hb3⟩
            go_wp2_with fail
            refine (isURL_host h (S (upath s.data.toList)) _ g3' g4').mono ?_
            rintro e w4 ⟨rfl, hb4⟩
            go_wp2_with fail
            refine (isURL_scheme (S (upath s.data.toList)) _).mono ?_
            rintro e w5 ⟨rfl, hb5⟩
            go_wp2_with fail
            go_ret
            have z1 := hb1.size
            have z2 := hb2.size
            have z3 := hb3.size
            have z4 := hb4.size
            exact ⟨rfl, (((hb1.trans (hb2.mono (by omega))).trans (hb3.mono (by omega))).trans (hb4.mono (by omega))).trans (hb5.mono (by omega))⟩
      · go_enter Try.func4, Try.ntmps4
        go_wp2_with fail
        refine (zz8_small s h _ hs).mono ?_
        rintro e w' ⟨rfl, rfl⟩
        go_wp2_with fail
        go_ret
        exact ⟨rfl, Below.refl _ _⟩
    · go_enter Try.func4, Try.ntmps4
      go_wp2_with fail
      refine (zz8_small s h _ hs).mono ?_
      rintro e w' ⟨rfl, rfl⟩
      go_wp2_with fail
      go_ret
      exact ⟨rfl, Below.refl _ _⟩
  · go_enter Try.func4, Try.ntmps4
    go_wp2_with fail
    refine (zz8_large s h _ (by omega) _hs _hh).mono ?_
    rintro e w' ⟨rfl, rfl⟩
    go_wp2_with fail
    go_ret
    exact ⟨rfl, Below.refl _ _⟩

end Go.Proofs.Ytbegkbpkigbpeaa
