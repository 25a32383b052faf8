/-
  The contracts of the law's own helpers: hasPrefixAt, hasToken, tokenOf; conditions: the sizes that each names.
-/
import Derived.Test.YtchgiafmbfdpdaaWalkA
namespace Go.Proofs.Ytchgiafmbfdpdaa
open Go.RowKit

/-- w' is w but for some draws. -/
def Drawn (w w' : World) : Prop := ∃ n, w' = w.drewN n
theorem Drawn.refl (w : World) : Drawn w w := ⟨0, rfl⟩
theorem Drawn.trans {a b c : World} (h : Drawn a b) (k : Drawn b c) : Drawn a c := by
  obtain ⟨n, rfl⟩ := h
  obtain ⟨m, rfl⟩ := k
  exact ⟨n + m, by simp⟩
theorem Buf.drawn {B : Nat} {e : TypeId} {v : Value} {l : List UInt8} {W0 w w' : World} (h : Buf B e v l W0 w) (hd : Drawn w w') : Buf B e v l W0 w' := by
  obtain ⟨n, rfl⟩ := hd
  exact Lib.OwnBuf.drewN h n

theorem occ_short (s p : ByteArray) (i : Nat) (h : s.size - i < p.size) : Lib.occAt s.data.toList p.data.toList i = false := by
  rw [Lib.size_eq, Lib.size_eq] at h
  unfold Lib.occAt
  rw [Bool.eq_false_iff]
  intro hp
  have := (List.isPrefixOf_iff_prefix.1 hp).length_le
  rw [List.length_drop] at this
  omega
theorem occ_ne (s p : ByteArray) (i k : Nat) (hk : k < p.size) (hik : i + k < s.size) (h : ((s[i + k].toNat : Int) != (p[k].toNat : Int)) = true) : Lib.occAt s.data.toList p.data.toList i = false := by
  unfold Lib.occAt
  rw [Bool.eq_false_iff]
  intro hp
  obtain ⟨r, hr⟩ := List.isPrefixOf_iff_prefix.1 hp
  have e1 := Lib.data_getElem? s (i + k) hik
  have e2 := Lib.data_getElem? p k hk
  have e3 : (s.data.toList.drop i)[k]? = some s[i + k] := by rw [List.getElem?_drop]; exact e1
  rw [← hr, List.getElem?_append_left (by rw [← Lib.size_eq]; exact hk), e2] at e3
  simp at e3
  rw [e3] at h
  simp at h
theorem occ_all (s p : ByteArray) (i : Nat) (h : (s.data.toList.drop i).take p.size = p.data.toList) : Lib.occAt s.data.toList p.data.toList i = true := by
  unfold Lib.occAt
  rw [List.isPrefixOf_iff_prefix]
  have e := List.take_append_drop p.size (s.data.toList.drop i)
  rw [h] at e
  exact ⟨_, e⟩
theorem occ_step (s p : ByteArray) (i k : Nat) (hk : k < p.size) (hik : i + k < s.size) (h : ((s[i + k].toNat : Int) != (p[k].toNat : Int)) = false) (ih : (s.data.toList.drop i).take k = p.data.toList.take k) :
    (s.data.toList.drop i).take (k + 1) = p.data.toList.take (k + 1) := by
  have e1 := Lib.data_getElem? s (i + k) hik
  have e2 := Lib.data_getElem? p k hk
  have e3 : (s.data.toList.drop i)[k]? = some s[i + k] := by rw [List.getElem?_drop]; exact e1
  have e4 : s[i + k] = p[k] := by
    apply byte_eq
    rw [bne, Bool.not_eq_false'] at h
    exact h
  rw [List.take_add_one, List.take_add_one, ih, e3, e2, e4]

set_option maxHeartbeats 400000 in
theorem prefixAt_any (s p : ByteArray) (i : Nat) (w : World) (hs : s.size ≤ 1099511627776) (hp : p.size ≤ 1099511627776) (hi : i ≤ s.size) :
    Calls Try.prog 11 #[.string s, .int .i64 i, .string p] w fun e w' => e = .returned (.bool (Lib.occAt s.data.toList p.data.toList i)) ∧ Drawn w w' := by
  have hd0 : decide ((i : Int) < 0) = false := by simp
  have hd2 : decide ((s.size : Int) < (i : Int)) = false := by rw [decide_eq_false_iff_not]; omega
  by_cases hroom : s.size - i < p.size
  · have hd1 : decide ((s.size : Int) - i < p.size) = true := by simp; omega
    go_enter Try.func11, Try.ntmps11
    go_wp2
    go_ret
    exact ⟨ret_bool (occ_short s p i hroom).symm, Drawn.refl _⟩
  · have hd1 : decide ((s.size : Int) - i < p.size) = false := by simp; omega
    go_enter Try.func11, Try.ntmps11
    go_wp2
    go_loopw [7] (fun j wr => ∃ k : Nat, k ≤ p.size ∧ j = .int .i64 k ∧ (s.data.toList.drop i).take k = p.data.toList.take k ∧ ∃ n, wr = w.drewN n) (fun j _ => p.size - (intOf j).toNat)
    case atStart => exact ⟨0, Nat.zero_le _, rfl, by simp, 0, rfl⟩
    case round =>
      obtain ⟨k, hk, rfl, hno, n, rfl⟩ := hrel
      have HN := Lib.hid hno
      clear hno
      by_cases hlt : k < p.size
      · have b1 : (0 : Int) ≤ (i : Int) + k := by omega
        have b2 : ((i : Int) + k) < s.size := by omega
        have b3 : i + k < s.size := by omega
        go_wp2
        go_quiet (fail)
        go_wp2
        · have hc : ((s[i + k].toNat : Int) != (p[k].toNat : Int)) = true := by assumption
          go_ret
          exact ⟨ret_bool (occ_ne s p i k hlt b3 hc).symm, n + nq, by simp⟩
        · have hc : ((s[i + k].toNat : Int) != (p[k].toNat : Int)) = false := by assumption
          exact ⟨⟨k + 1, by omega, by go_num, occ_step s p i k hlt b3 hc HN.out, n + nq, rfl⟩, by simp [intOf]; omega⟩
      · go_wp2
        go_ret
        refine ⟨ret_bool (occ_all s p i ?_).symm, n, rfl⟩
        have := HN.out
        rw [show k = p.size by omega] at this
        rw [this, List.take_of_length_le (by rw [← Lib.size_eq]; exact Nat.le_refl _)]

theorem prefixAt_val (s p : ByteArray) (i : Nat) (r : Bool) (w : World) (hs : s.size ≤ 1099511627776) (hp : p.size ≤ 1099511627776) (hi : i ≤ s.size) (hr : Lib.occAt s.data.toList p.data.toList i = r) :
    Calls Try.prog 11 #[.string s, .int .i64 i, .string p] w fun e w' => e = .returned (.bool r) ∧ Drawn w w' := by
  have h := prefixAt_any s p i w hs hp hi
  rw [hr] at h
  exact h

theorem tokAt_none {l : List UInt8} (h : tokAt l = none) (p : Nat) (hp : 1 ≤ p ∧ p ≤ 4) : (tok p).isPrefixOf l = false := by
  unfold tokAt at h
  obtain rfl | rfl | rfl | rfl : p = 1 ∨ p = 2 ∨ p = 3 ∨ p = 4 := by omega
  all_goals
    rw [Bool.eq_false_iff]
    intro hh
    repeat' split at h
    all_goals first | (cases h; done) | contradiction

set_option maxHeartbeats 400000 in
theorem hasToken_no (s : ByteArray) (w : World) (hs : s.size ≤ 1099511627776) (hno : noTok s.data.toList) :
    Calls Try.prog 10 #[.string s] w fun e w' => e = .returned (.bool false) ∧ Drawn w w' := by
  have HN := Lib.hid hno
  clear hno
  go_enter Try.func10, Try.ntmps10
  go_wp2
  go_loopw [3] (fun j wr => ∃ k : Nat, k ≤ s.size ∧ j = .int .i64 k ∧ Drawn w wr) (fun j _ => s.size - (intOf j).toNat)
  case atStart => exact ⟨0, Nat.zero_le _, rfl, Drawn.refl _⟩
  case round =>
    obtain ⟨k, hk, rfl, hd⟩ := hrel
    by_cases hlt : k < s.size
    · by_cases h91 : ((s[k].toNat : Int) == 91) = true
      · have P1 := Lib.hid (show Lib.occAt s.data.toList (ByteArray.mk #[91, 100, 105, 114, 93]).data.toList k = false from tokAt_none (HN.out k) 1 (by omega))
        have P2 := Lib.hid (show Lib.occAt s.data.toList (ByteArray.mk #[91, 110, 97, 109, 101, 93]).data.toList k = false from tokAt_none (HN.out k) 2 (by omega))
        have P3 := Lib.hid (show Lib.occAt s.data.toList (ByteArray.mk #[91, 104, 97, 115, 104, 93]).data.toList k = false from tokAt_none (HN.out k) 3 (by omega))
        have P4 := Lib.hid (show Lib.occAt s.data.toList (ByteArray.mk #[91, 101, 120, 116, 93]).data.toList k = false from tokAt_none (HN.out k) 4 (by omega))
        go_wp2_with fail
        refine (prefixAt_val s _ k false _ hs (by decide) hk P1.out).mono ?_
        rintro e w1 ⟨rfl, hd1⟩
        go_wp2_with fail
        refine (prefixAt_val s _ k false _ hs (by decide) hk P2.out).mono ?_
        rintro e w2 ⟨rfl, hd2⟩
        go_wp2_with fail
        refine (prefixAt_val s _ k false _ hs (by decide) hk P3.out).mono ?_
        rintro e w3 ⟨rfl, hd3⟩
        go_wp2_with fail
        refine (prefixAt_val s _ k false _ hs (by decide) hk P4.out).mono ?_
        rintro e w4 ⟨rfl, hd4⟩
        go_wp2_with fail
        exact ⟨⟨k + 1, by omega, by go_num, (((hd.trans hd1).trans hd2).trans hd3).trans hd4⟩, by simp [intOf]; omega⟩
      · have h91' : ((s[k].toNat : Int) == 91) = false := by simpa using h91
        clear h91
        go_wp2_with fail
        exact ⟨⟨k + 1, by omega, by go_num, hd⟩, by simp [intOf]; omega⟩
    · go_wp2_with fail
      go_ret
      exact ⟨rfl, hd⟩

set_option maxHeartbeats 400000 in
theorem tokenOf_any (p : Nat) (w : World) (hp : p ≤ 4) :
    Calls Try.prog 9 #[.int .i64 (p : Int)] w fun e w' => e = .returned (.tuple #[.string (S (tok p)), .bool true]) ∧ w = w' := by
  obtain rfl | rfl | rfl | rfl | rfl : p = 0 ∨ p = 1 ∨ p = 2 ∨ p = 3 ∨ p = 4 := by omega
  all_goals
    go_enter Try.func9, Try.ntmps9
    go_wp2
    go_ret2
    exact ⟨rfl, rfl⟩

end Go.Proofs.Ytchgiafmbfdpdaa
