/-
  The walk of the per-byte law of the attribute's escaper; conditions: none (a text beyond the size guard answers at once).
-/
import Derived.Test.YtgaglcalpcngbaaWalkB
namespace Go.Proofs.Ytgaglcalpcngbaa
open Go.RowKit

set_option maxHeartbeats 400000 in
theorem zz14_small (s : ByteArray) (w : World) (hs : s.size ≤ 1048576) : Calls Try.prog 14 #[.string s] w fun e w' => e = .returned (.bool true) ∧ w = w' := by
  go_enter Try.func14, Try.ntmps14
  go_wp2
  go_ret
  exact ⟨rfl, rfl⟩
set_option maxHeartbeats 400000 in
theorem zz14_large (s : ByteArray) (w : World) (hs : 1048576 < s.size) : Calls Try.prog 14 #[.string s] w fun e w' => e = .returned (.bool false) ∧ w = w' := by
  go_enter Try.func14, Try.ntmps14
  go_wp2
  go_ret
  exact ⟨rfl, rfl⟩
set_option maxHeartbeats 400000 in
theorem zz7_small (s : ByteArray) (w : World) (hs : s.size ≤ 1048576) : Calls Try.prog 7 #[.string s] w fun e w' => e = .returned (.bool true) ∧ w = w' := by
  go_enter Try.func7, Try.ntmps7
  go_wp2
  go_ret
  exact ⟨rfl, rfl⟩
set_option maxHeartbeats 400000 in
theorem zz7_large (s : ByteArray) (w : World) (hs : 1048576 < s.size) : Calls Try.prog 7 #[.string s] w fun e w' => e = .returned (.bool false) ∧ w = w' := by
  go_enter Try.func7, Try.ntmps7
  go_wp2
  go_ret
  exact ⟨rfl, rfl⟩
set_option maxHeartbeats 400000 in
theorem zz11_small (s : ByteArray) (w : World) (hs : s.size ≤ 1048576) : Calls Try.prog 11 #[.string s] w fun e w' => e = .returned (.bool true) ∧ w = w' := by
  go_enter Try.func11, Try.ntmps11
  go_wp2
  go_ret
  exact ⟨rfl, rfl⟩
set_option maxHeartbeats 400000 in
theorem zz11_large (s : ByteArray) (w : World) (hs : 1048576 < s.size) : Calls Try.prog 11 #[.string s] w fun e w' => e = .returned (.bool false) ∧ w = w' := by
  go_enter Try.func11, Try.ntmps11
  go_wp2
  go_ret
  exact ⟨rfl, rfl⟩
set_option maxHeartbeats 400000 in
theorem fnEscapeForAttributePerByteModel_walk (s : ByteArray) (w : World) (_hs : s.size ≤ maxLen) :
    Calls Try.prog 6 #[.string s] w fun e w' => e = .returned (.bool true) ∧ Below w.heap.size w w' := by
  unfold maxLen at _hs
  by_cases hs : s.size ≤ 1048576
  · obtain ⟨i0, hi0, hz0, hz1, hz2⟩ := info_parts infoU8
    have HI := Lib.hid (And.intro hi0 (And.intro hz0 (And.intro hz1 hz2)))
    clear hi0 hz0 hz1 hz2
    have hd : decide ((1048576 : Int) < (s.size : Int)) = false := by simp; omega
    go_enter Try.func6, Try.ntmps6
    go_wp2_with fail
    refine (zz14_small s _ hs).mono ?_
    rintro e w' ⟨rfl, rfl⟩
    go_wp2_with fail
    refine (zattr_any s _ hs).mono ?_
    rintro e w1 ⟨rfl, hb1⟩
    have hsz := hb1.size
    go_wp2_with (at_make; refine wpList_make_own _ rfl _ _ 27 rfl w.heap.size 5 i0 (.int .u8 0) 1 Try.underlying27 HI.out.1 HI.out.2.1 HI.out.2.2.1 _ _ _ (s.size * 6) rfl rfl (by omega) (by rw [HI.out.2.2.2]; omega) (by unfold maxLen; omega) hsz ?_; intro w2 hown hgrow)
    have hb := Buf.made hown hgrow hb1 hsz
    clear hown hgrow
    go_loopw [4, 5] (fun v i wr => ∃ (k : Nat) (m : List UInt8), k ≤ s.size ∧ i = .int .i64 k ∧ Buf w.heap.size 5 v m w wr ∧ m = esc true (s.data.toList.take k)) (fun _ i _ => s.size - (intOf i).toNat)
    case atStart => exact ⟨0, [], Nat.zero_le _, rfl, hb, rfl⟩
    case round =>
      clear hb hb1 hsz
      obtain ⟨k, m, hk, rfl, hb, hm⟩ := hrel
      have hml : m.length ≤ 6291456 := by
        rw [hm]
        have h1 := esc_length true (s.data.toList.take k)
        have h2 := List.length_take_le k s.data.toList
        omega
      have HM := Lib.hid hm
      clear hm
      by_cases hlt : k < s.size
      · go_wp2_with (first | (at_builtin; refine buf_text rfl (.tmp 35) _ 27 9 rfl w.heap.size 5 i0 Try.underlying27 Try.underlying9 HI.out.1 HI.out.2.1 HI.out.2.2.1 HI.out.2.2.2 _ m rfl w hb _ rfl (Nat.le_trans (Nat.add_le_add_left (show _ ≤ 6 by decide) _) (by omega)) ?_; intro v' w' hb'; clear hb) | (at_builtin; refine buf_text rfl (.tmp 39) _ 27 9 rfl w.heap.size 5 i0 Try.underlying27 Try.underlying9 HI.out.1 HI.out.2.1 HI.out.2.2.1 HI.out.2.2.2 _ m rfl w hb _ rfl (Nat.le_trans (Nat.add_le_add_left (show _ ≤ 6 by decide) _) (by omega)) ?_; intro v' w' hb'; clear hb) | (at_builtin; refine buf_text rfl (.tmp 43) _ 27 9 rfl w.heap.size 5 i0 Try.underlying27 Try.underlying9 HI.out.1 HI.out.2.1 HI.out.2.2.1 HI.out.2.2.2 _ m rfl w hb _ rfl (Nat.le_trans (Nat.add_le_add_left (show _ ≤ 6 by decide) _) (by omega)) ?_; intro v' w' hb'; clear hb) | (at_builtin; refine buf_text rfl (.tmp 47) _ 27 9 rfl w.heap.size 5 i0 Try.underlying27 Try.underlying9 HI.out.1 HI.out.2.1 HI.out.2.2.1 HI.out.2.2.2 _ m rfl w hb _ rfl (Nat.le_trans (Nat.add_le_add_left (show _ ≤ 6 by decide) _) (by omega)) ?_; intro v' w' hb'; clear hb) | (at_builtin; refine buf_text rfl (.tmp 51) _ 27 9 rfl w.heap.size 5 i0 Try.underlying27 Try.underlying9 HI.out.1 HI.out.2.1 HI.out.2.2.1 HI.out.2.2.2 _ m rfl w hb _ rfl (Nat.le_trans (Nat.add_le_add_left (show _ ≤ 6 by decide) _) (by omega)) ?_; intro v' w' hb'; clear hb) | (at_builtin; refine buf_byte rfl (.tmp 29) (.tmp 31) 27 rfl w.heap.size 5 i0 Try.underlying27 HI.out.1 HI.out.2.1 HI.out.2.2.1 HI.out.2.2.2 _ m rfl w _ _ s[k] rfl hb rfl (by omega) ?_; intro v' w' hb'; clear hb))
        all_goals refine ⟨⟨k + 1, _, by omega, by go_num, hb', ?_⟩, by simp [intOf]; omega⟩
        · exact esc_next true s k hlt m _ HM.out ((ent_of _ _).1 (by assumption))
        · exact esc_next true s k hlt m _ HM.out ((ent_of _ _).2.1 (by assumption))
        · exact esc_next true s k hlt m _ HM.out ((ent_of _ _).2.2 (by assumption))
        · exact esc_next true s k hlt m _ HM.out ((ent_quot _).1 (by assumption))
        · exact esc_next true s k hlt m _ HM.out ((ent_quot _).2 (by assumption))
        · exact esc_next true s k hlt m _ HM.out (ent_self' _ (by assumption) (by assumption) (by assumption) (by assumption) (by assumption))
      · have hfin : m = esc true s.data.toList := by
          rw [HM.out, List.take_of_length_le (by rw [← Lib.size_eq]; omega)]
        subst hfin
        have hcv := hb.convert (P := Try.prog) 27 9 Try.underlying27 Try.underlying5 Try.underlying9
        go_wp2
        go_ret
        exact ⟨by simp, hb.below⟩
  · go_enter Try.func6, Try.ntmps6
    go_wp2_with fail
    refine (zz14_large s _ (by omega)).mono ?_
    rintro e w' ⟨rfl, rfl⟩
    go_wp2_with fail
    go_ret
    exact ⟨rfl, Below.refl _ _⟩

end Go.Proofs.Ytgaglcalpcngbaa
