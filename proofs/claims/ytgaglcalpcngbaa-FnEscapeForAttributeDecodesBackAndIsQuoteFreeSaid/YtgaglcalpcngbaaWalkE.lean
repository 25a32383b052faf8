/-
  The walks of the two laws that decode back: the escaped text holds none of the signs and decodes to the text; conditions: none (a text beyond the size guard answers at once).
-/
import Derived.Test.YtgaglcalpcngbaaDec
namespace Go.Proofs.Ytgaglcalpcngbaa
open Go.RowKit

theorem hasByte_no (s : ByteArray) (n : Int) (c : UInt8) (w : World) (hn : n = c.toNat) (hs : s.size ≤ 1099511627776) (h : c ∉ s.data.toList) :
    Calls Try.prog 9 #[.string s, .int .u8 n] w fun e w' => e = .returned (.bool false) ∧ w = w' := by
  have := hasByte_any s c w hs
  rw [memB_no h] at this
  rw [hn]
  exact this
theorem hasByte_yes (s : ByteArray) (n : Int) (c : UInt8) (w : World) (hn : n = c.toNat) (hs : s.size ≤ 1099511627776) (h : c ∈ s.data.toList) :
    Calls Try.prog 9 #[.string s, .int .u8 n] w fun e w' => e = .returned (.bool true) ∧ w = w' := by
  have := hasByte_any s c w hs
  rw [memB_yes h] at this
  rw [hn]
  exact this

theorem esc_size (q : Bool) (s : ByteArray) (hs : s.size ≤ 1048576) : (S (esc q s.data.toList)).size ≤ 6291456 := by
  rw [S_size]
  have := esc_length q s.data.toList
  rw [← Lib.size_eq] at this
  omega

set_option maxHeartbeats 400000 in
theorem fnEscapeForHTMLDecodesBack_walk (s : ByteArray) (w : World) (_hs : s.size ≤ maxLen) :
    Calls Try.prog 3 #[.string s] w fun e w' => e = .returned (.bool true) ∧ Below w.heap.size w w' := by
  unfold maxLen at _hs
  by_cases hs : s.size ≤ 1048576
  · have hz := esc_size false s hs
    have n1 : (60 : UInt8) ∉ (S (esc false s.data.toList)).data.toList := by rw [S_data]; exact esc_no _ _ (no60 _) _
    have n2 : (62 : UInt8) ∉ (S (esc false s.data.toList)).data.toList := by rw [S_data]; exact esc_no _ _ (no62 _) _
    have N := Lib.hid (And.intro n1 n2)
    clear n1 n2
    go_enter Try.func3, Try.ntmps3
    go_wp2_with fail
    refine (zz7_small s _ hs).mono ?_
    rintro e w' ⟨rfl, rfl⟩
    go_wp2_with fail
    refine (zhtml_any s _ hs).mono ?_
    rintro e w1 ⟨rfl, hb1⟩
    go_wp2_with fail
    refine (hasByte_no (S (esc false s.data.toList)) _ 60 _ rfl (by omega) N.out.1).mono ?_
    rintro e w' ⟨rfl, rfl⟩
    go_wp2_with fail
    refine (hasByte_no (S (esc false s.data.toList)) _ 62 _ rfl (by omega) N.out.2).mono ?_
    rintro e w' ⟨rfl, rfl⟩
    go_wp2_with fail
    refine (decode_esc false (S (esc false s.data.toList)) s.data.toList _ (S_data _) (by rw [← Lib.size_eq]; exact hs)).mono ?_
    rintro e w2 ⟨rfl, hb2⟩
    rw [S_L]
    go_wp2_with fail
    go_ret
    exact ⟨by simp, hb1.trans (hb2.mono hb1.size)⟩
  · go_enter Try.func3, Try.ntmps3
    go_wp2_with fail
    refine (zz7_large s _ (by omega)).mono ?_
    rintro e w' ⟨rfl, rfl⟩
    go_wp2_with fail
    go_ret
    exact ⟨rfl, Below.refl _ _⟩

set_option maxHeartbeats 1000000 in
theorem fnEscapeForAttributeDecodesBackAndIsQuoteFree_walk (s : ByteArray) (w : World) (_hs : s.size ≤ maxLen) :
    Calls Try.prog 4 #[.string s] w fun e w' => e = .returned (.bool true) ∧ Below w.heap.size w w' := by
  unfold maxLen at _hs
  by_cases hs : s.size ≤ 1048576
  · have hz := esc_size true s hs
    have n1 : (60 : UInt8) ∉ (S (esc true s.data.toList)).data.toList := by rw [S_data]; exact esc_no _ _ (no60 _) _
    have n2 : (62 : UInt8) ∉ (S (esc true s.data.toList)).data.toList := by rw [S_data]; exact esc_no _ _ (no62 _) _
    have n3 : (34 : UInt8) ∉ (S (esc true s.data.toList)).data.toList := by rw [S_data]; exact esc_no _ _ no34 _
    have n4 : (39 : UInt8) ∉ (S (esc true s.data.toList)).data.toList := by rw [S_data]; exact esc_no _ _ no39 _
    have N := Lib.hid (And.intro n1 (And.intro n2 (And.intro n3 n4)))
    clear n1 n2 n3 n4
    by_cases hq : (34 : UInt8) ∈ s.data.toList
    · have HQ := Lib.hid hq
      clear hq
      go_enter Try.func4, Try.ntmps4
      go_wp2_with fail
      refine (zz11_small s _ hs).mono ?_
      rintro e w' ⟨rfl, rfl⟩
      go_wp2_with fail
      refine (zattr_any s _ hs).mono ?_
      rintro e w1 ⟨rfl, hb1⟩
      go_wp2_with fail
      refine (hasByte_no (S (esc true s.data.toList)) _ 60 _ rfl (by omega) N.out.1).mono ?_
      rintro e w' ⟨rfl, rfl⟩
      go_wp2_with fail
      refine (hasByte_no (S (esc true s.data.toList)) _ 62 _ rfl (by omega) N.out.2.1).mono ?_
      rintro e w' ⟨rfl, rfl⟩
      go_wp2_with fail
      refine (hasByte_no (S (esc true s.data.toList)) _ 34 _ rfl (by omega) N.out.2.2.1).mono ?_
      rintro e w' ⟨rfl, rfl⟩
      go_wp2_with fail
      refine (hasByte_no (S (esc true s.data.toList)) _ 39 _ rfl (by omega) N.out.2.2.2).mono ?_
      rintro e w' ⟨rfl, rfl⟩
      go_wp2_with fail
      refine (decode_esc true (S (esc true s.data.toList)) s.data.toList _ (S_data _) (by rw [← Lib.size_eq]; exact hs)).mono ?_
      rintro e w2 ⟨rfl, hb2⟩
      rw [S_L]
      go_wp2_with fail
      refine (hasByte_yes s _ 34 _ rfl (by omega) HQ.out).mono ?_
      rintro e w' ⟨rfl, rfl⟩
      go_wp2_with fail
      go_ret
      exact ⟨rfl, hb1.trans (hb2.mono hb1.size)⟩
    · have HQ := Lib.hid hq
      clear hq
      go_enter Try.func4, Try.ntmps4
      go_wp2_with fail
      refine (zz11_small s _ hs).mono ?_
      rintro e w' ⟨rfl, rfl⟩
      go_wp2_with fail
      refine (zattr_any s _ hs).mono ?_
      rintro e w1 ⟨rfl, hb1⟩
      go_wp2_with fail
      refine (hasByte_no (S (esc true s.data.toList)) _ 60 _ rfl (by omega) N.out.1).mono ?_
      rintro e w' ⟨rfl, rfl⟩
      go_wp2_with fail
      refine (hasByte_no (S (esc true s.data.toList)) _ 62 _ rfl (by omega) N.out.2.1).mono ?_
      rintro e w' ⟨rfl, rfl⟩
      go_wp2_with fail
      refine (hasByte_no (S (esc true s.data.toList)) _ 34 _ rfl (by omega) N.out.2.2.1).mono ?_
      rintro e w' ⟨rfl, rfl⟩
      go_wp2_with fail
      refine (hasByte_no (S (esc true s.data.toList)) _ 39 _ rfl (by omega) N.out.2.2.2).mono ?_
      rintro e w' ⟨rfl, rfl⟩
      go_wp2_with fail
      refine (decode_esc true (S (esc true s.data.toList)) s.data.toList _ (S_data _) (by rw [← Lib.size_eq]; exact hs)).mono ?_
      rintro e w2 ⟨rfl, hb2⟩
      rw [S_L]
      go_wp2_with fail
      refine (hasByte_no s _ 34 _ rfl (by omega) HQ.out).mono ?_
      rintro e w' ⟨rfl, rfl⟩
      go_wp2_with fail
      by_cases hr : (39 : UInt8) ∈ s.data.toList
      · have HR := Lib.hid hr
        clear hr
        refine (hasByte_yes s _ 39 _ rfl (by omega) HR.out).mono ?_
        rintro e w' ⟨rfl, rfl⟩
        go_wp2_with fail
        go_ret
        exact ⟨rfl, hb1.trans (hb2.mono hb1.size)⟩
      · have HR := Lib.hid hr
        clear hr
        refine (hasByte_no s _ 39 _ rfl (by omega) HR.out).mono ?_
        rintro e w' ⟨rfl, rfl⟩
        go_wp2_with fail
        refine (zhtml_any s _ hs).mono ?_
        rintro e w3 ⟨rfl, hb3⟩
        rw [← esc_same _ HQ.out HR.out]
        go_wp2_with fail
        go_ret
        exact ⟨by simp, (hb1.trans (hb2.mono hb1.size)).trans (hb3.mono (Nat.le_trans hb1.size hb2.size))⟩
  · go_enter Try.func4, Try.ntmps4
    go_wp2_with fail
    refine (zz11_large s _ (by omega)).mono ?_
    rintro e w' ⟨rfl, rfl⟩
    go_wp2_with fail
    go_ret
    exact ⟨rfl, Below.refl _ _⟩

end Go.Proofs.Ytgaglcalpcngbaa
