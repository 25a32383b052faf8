/-
  The contracts of the tests of the input: the public path's letters, the names' letters, their distinctness; conditions: those that each names.
-/
import Derived.Test.YtglchiomdojjoaaGreatFmtGrd
import Derived.Test.YtglchiomdojjoaaGreatFmtStr
namespace Go.Proofs.YtglchiomdojjoaaGreatFmt
open Go.RowKit

/-- A letter of a name. -/
def NmC (c : UInt8) : Prop := (97 ≤ c.toNat ∧ c.toNat ≤ 122) ∨ (65 ≤ c.toNat ∧ c.toNat ≤ 90) ∨ (48 ≤ c.toNat ∧ c.toNat ≤ 57) ∨ c.toNat = 46 ∨ c.toNat = 45 ∨ c.toNat = 95
def PbC (c : UInt8) : Prop := NmC c ∨ c.toNat = 47 ∨ c.toNat = 58
def AllC (C : UInt8 → Prop) (s : ByteArray) : Prop := ∀ c ∈ s.data.toList, C c
/-- The answer true tells P; nothing has changed. -/
def Tel (P : Prop) (w : World) (e : Ending) (w' : World) : Prop := ∃ b : Bool, e = .returned (.bool b) ∧ w = w' ∧ (b = true → P)
theorem at_get (s : ByteArray) (i : Nat) (h : i < s.size) : s.data.toList[i]! = s[i] := by
  have e := Lib.data_getElem? s i h
  rw [List.getElem!_eq_getElem?_getD, e]
  rfl
theorem all_next {C : UInt8 → Prop} {s : ByteArray} {k : Nat} (h : k < s.size) (ha : ∀ c ∈ s.data.toList.take k, C c) (hk : C s[k]) : ∀ c ∈ s.data.toList.take (k + 1), C c := by
  intro c hc
  have hl : k < s.data.toList.length := by rw [← Lib.size_eq]; exact h
  rw [List.take_succ_eq_append_getElem hl, List.mem_append] at hc
  rcases hc with hc | hc
  · exact ha c hc
  · rw [List.mem_singleton] at hc
    have e := at_get s k h
    rw [getElem!_pos _ k hl] at e
    rw [hc, e]
    exact hk
theorem all_end {C : UInt8 → Prop} {s : ByteArray} (ha : ∀ c ∈ s.data.toList.take s.size, C c) : AllC C s := by
  rw [List.take_of_length_le (by rw [← Lib.size_eq]; exact Nat.le_refl _)] at ha
  exact ha
set_option maxHeartbeats 4000000 in
set_option maxRecDepth 100000 in
theorem public_any (s : ByteArray) (w : World) (hs : s.size ≤ 1048576) : Calls Tryz.prog 16 #[.string s] w (Tel (AllC PbC s) w) := by
  go_enter Tryz.func16, Tryz.ntmps16
  go_wp2_with fail
  go_loop [3] (fun sk => ∃ k : Nat, k ≤ s.size ∧ sk = .int .i64 k ∧ ∀ c ∈ s.data.toList.take k, PbC c) (fun sk => s.size - (intOf sk).toNat)
  case atStart => exact ⟨0, Nat.zero_le _, rfl, fun c hc => by simp at hc⟩
  case round =>
    obtain ⟨k, hk, rfl, ha⟩ := hrel
    by_cases hlt : k < s.size
    · obtain ⟨n, hn⟩ : ∃ n, s[k].toNat = n := ⟨_, rfl⟩
      have hb := s[k].toNat_lt
      rw [hn] at hb
      have HA := Lib.hid (And.intro ha hn)
      clear ha
      rcases (by omega : (97 ≤ n ∧ n ≤ 122) ∨ (65 ≤ n ∧ n ≤ 90) ∨ (48 ≤ n ∧ n ≤ 57) ∨ (n = 46 ∧ 0 ≤ n) ∨ (n = 45 ∧ 0 ≤ n) ∨ (n = 95 ∧ 0 ≤ n) ∨ (n = 47 ∧ 0 ≤ n) ∨ (n = 58 ∧ 0 ≤ n) ∨ (n < 45 ∧ 0 ≤ n) ∨ (58 < n ∧ n < 65) ∨ (90 < n ∧ n < 95) ∨ (n = 96 ∧ 0 ≤ n) ∨ (122 < n ∧ 0 ≤ n)) with ⟨r1, r2⟩ | ⟨r1, r2⟩ | ⟨r1, r2⟩ | ⟨r1, r2⟩ | ⟨r1, r2⟩ | ⟨r1, r2⟩ | ⟨r1, r2⟩ | ⟨r1, r2⟩ | ⟨r1, r2⟩ | ⟨r1, r2⟩ | ⟨r1, r2⟩ | ⟨r1, r2⟩ | ⟨r1, r2⟩
      · have hN : PbC s[k] := by unfold PbC; unfold NmC; rw [hn]; omega
        have HN := Lib.hid hN
        clear hN
        go_wp2_with fail
        go_round
        case rel => exact ⟨k + 1, by omega, by go_num, all_next hlt HA.out.1 HN.out⟩
        case measure => simp [intOf]; omega
      · have hN : PbC s[k] := by unfold PbC; unfold NmC; rw [hn]; omega
        have HN := Lib.hid hN
        clear hN
        go_wp2_with fail
        go_round
        case rel => exact ⟨k + 1, by omega, by go_num, all_next hlt HA.out.1 HN.out⟩
        case measure => simp [intOf]; omega
      · have hN : PbC s[k] := by unfold PbC; unfold NmC; rw [hn]; omega
        have HN := Lib.hid hN
        clear hN
        go_wp2_with fail
        go_round
        case rel => exact ⟨k + 1, by omega, by go_num, all_next hlt HA.out.1 HN.out⟩
        case measure => simp [intOf]; omega
      · have hN : PbC s[k] := by unfold PbC; unfold NmC; rw [hn]; omega
        have HN := Lib.hid hN
        clear hN
        obtain rfl := r1
        go_wp2_with fail
        go_round
        case rel => exact ⟨k + 1, by omega, by go_num, all_next hlt HA.out.1 HN.out⟩
        case measure => simp [intOf]; omega
      · have hN : PbC s[k] := by unfold PbC; unfold NmC; rw [hn]; omega
        have HN := Lib.hid hN
        clear hN
        obtain rfl := r1
        go_wp2_with fail
        go_round
        case rel => exact ⟨k + 1, by omega, by go_num, all_next hlt HA.out.1 HN.out⟩
        case measure => simp [intOf]; omega
      · have hN : PbC s[k] := by unfold PbC; unfold NmC; rw [hn]; omega
        have HN := Lib.hid hN
        clear hN
        obtain rfl := r1
        go_wp2_with fail
        go_round
        case rel => exact ⟨k + 1, by omega, by go_num, all_next hlt HA.out.1 HN.out⟩
        case measure => simp [intOf]; omega
      · have hN : PbC s[k] := by unfold PbC; unfold NmC; rw [hn]; omega
        have HN := Lib.hid hN
        clear hN
        obtain rfl := r1
        go_wp2_with fail
        go_round
        case rel => exact ⟨k + 1, by omega, by go_num, all_next hlt HA.out.1 HN.out⟩
        case measure => simp [intOf]; omega
      · have hN : PbC s[k] := by unfold PbC; unfold NmC; rw [hn]; omega
        have HN := Lib.hid hN
        clear hN
        obtain rfl := r1
        go_wp2_with fail
        go_round
        case rel => exact ⟨k + 1, by omega, by go_num, all_next hlt HA.out.1 HN.out⟩
        case measure => simp [intOf]; omega
      · have q46 : ((n : Int) == 46) = false := by simp; omega
        have q45 : ((n : Int) == 45) = false := by simp; omega
        have q95 : ((n : Int) == 95) = false := by simp; omega
        have q47 : ((n : Int) == 47) = false := by simp; omega
        have q58 : ((n : Int) == 58) = false := by simp; omega
        go_wp2_with fail
        go_ret
        exact ⟨false, rfl, rfl, fun h => by cases h⟩
      · have q46 : ((n : Int) == 46) = false := by simp; omega
        have q45 : ((n : Int) == 45) = false := by simp; omega
        have q95 : ((n : Int) == 95) = false := by simp; omega
        have q47 : ((n : Int) == 47) = false := by simp; omega
        have q58 : ((n : Int) == 58) = false := by simp; omega
        have q57 : decide ((n : Int) ≤ 57) = false := by simp; omega
        go_wp2_with fail
        go_ret
        exact ⟨false, rfl, rfl, fun h => by cases h⟩
      · have q46 : ((n : Int) == 46) = false := by simp; omega
        have q45 : ((n : Int) == 45) = false := by simp; omega
        have q95 : ((n : Int) == 95) = false := by simp; omega
        have q47 : ((n : Int) == 47) = false := by simp; omega
        have q58 : ((n : Int) == 58) = false := by simp; omega
        have q57 : decide ((n : Int) ≤ 57) = false := by simp; omega
        have q90 : decide ((n : Int) ≤ 90) = false := by simp; omega
        go_wp2_with fail
        go_ret
        exact ⟨false, rfl, rfl, fun h => by cases h⟩
      · obtain rfl := r1
        go_wp2_with fail
        go_ret
        exact ⟨false, rfl, rfl, fun h => by cases h⟩
      · have q46 : ((n : Int) == 46) = false := by simp; omega
        have q45 : ((n : Int) == 45) = false := by simp; omega
        have q95 : ((n : Int) == 95) = false := by simp; omega
        have q47 : ((n : Int) == 47) = false := by simp; omega
        have q58 : ((n : Int) == 58) = false := by simp; omega
        have q57 : decide ((n : Int) ≤ 57) = false := by simp; omega
        have q90 : decide ((n : Int) ≤ 90) = false := by simp; omega
        have q122 : decide ((n : Int) ≤ 122) = false := by simp; omega
        go_wp2_with fail
        go_ret
        exact ⟨false, rfl, rfl, fun h => by cases h⟩
    · obtain rfl : k = s.size := by omega
      have HA := Lib.hid ha
      clear ha
      go_wp2_with fail
      go_ret
      exact ⟨true, rfl, rfl, fun _ => all_end HA.out⟩
set_option maxHeartbeats 4000000 in
set_option maxRecDepth 100000 in
theorem name_mid (s : ByteArray) (w : World) (hs : s.size ≤ 1048576) (e0 : s.toList.isEmpty = false) (e1 : (s.toList == [46]) = false) (e2 : (s.toList == [46, 46]) = false) : Calls Tryz.prog 17 #[.string s] w (Tel (AllC NmC s) w) := by
  go_enter Tryz.func17, Tryz.ntmps17
  go_wp2_with fail
  go_loop [3] (fun sk => ∃ k : Nat, k ≤ s.size ∧ sk = .int .i64 k ∧ ∀ c ∈ s.data.toList.take k, NmC c) (fun sk => s.size - (intOf sk).toNat)
  case atStart => exact ⟨0, Nat.zero_le _, rfl, fun c hc => by simp at hc⟩
  case round =>
    obtain ⟨k, hk, rfl, ha⟩ := hrel
    by_cases hlt : k < s.size
    · obtain ⟨n, hn⟩ : ∃ n, s[k].toNat = n := ⟨_, rfl⟩
      have hb := s[k].toNat_lt
      rw [hn] at hb
      have HA := Lib.hid (And.intro ha hn)
      clear ha
      rcases (by omega : (97 ≤ n ∧ n ≤ 122) ∨ (65 ≤ n ∧ n ≤ 90) ∨ (48 ≤ n ∧ n ≤ 57) ∨ (n = 46 ∧ 0 ≤ n) ∨ (n = 45 ∧ 0 ≤ n) ∨ (n = 95 ∧ 0 ≤ n) ∨ (n < 45 ∧ 0 ≤ n) ∨ (n = 47 ∧ 0 ≤ n) ∨ (57 < n ∧ n < 65) ∨ (90 < n ∧ n < 95) ∨ (n = 96 ∧ 0 ≤ n) ∨ (122 < n ∧ 0 ≤ n)) with ⟨r1, r2⟩ | ⟨r1, r2⟩ | ⟨r1, r2⟩ | ⟨r1, r2⟩ | ⟨r1, r2⟩ | ⟨r1, r2⟩ | ⟨r1, r2⟩ | ⟨r1, r2⟩ | ⟨r1, r2⟩ | ⟨r1, r2⟩ | ⟨r1, r2⟩ | ⟨r1, r2⟩
      · have hN : NmC s[k] := by unfold NmC; rw [hn]; omega
        have HN := Lib.hid hN
        clear hN
        go_wp2_with fail
        go_round
        case rel => exact ⟨k + 1, by omega, by go_num, all_next hlt HA.out.1 HN.out⟩
        case measure => simp [intOf]; omega
      · have hN : NmC s[k] := by unfold NmC; rw [hn]; omega
        have HN := Lib.hid hN
        clear hN
        go_wp2_with fail
        go_round
        case rel => exact ⟨k + 1, by omega, by go_num, all_next hlt HA.out.1 HN.out⟩
        case measure => simp [intOf]; omega
      · have hN : NmC s[k] := by unfold NmC; rw [hn]; omega
        have HN := Lib.hid hN
        clear hN
        go_wp2_with fail
        go_round
        case rel => exact ⟨k + 1, by omega, by go_num, all_next hlt HA.out.1 HN.out⟩
        case measure => simp [intOf]; omega
      · have hN : NmC s[k] := by unfold NmC; rw [hn]; omega
        have HN := Lib.hid hN
        clear hN
        obtain rfl := r1
        go_wp2_with fail
        go_round
        case rel => exact ⟨k + 1, by omega, by go_num, all_next hlt HA.out.1 HN.out⟩
        case measure => simp [intOf]; omega
      · have hN : NmC s[k] := by unfold NmC; rw [hn]; omega
        have HN := Lib.hid hN
        clear hN
        obtain rfl := r1
        go_wp2_with fail
        go_round
        case rel => exact ⟨k + 1, by omega, by go_num, all_next hlt HA.out.1 HN.out⟩
        case measure => simp [intOf]; omega
      · have hN : NmC s[k] := by unfold NmC; rw [hn]; omega
        have HN := Lib.hid hN
        clear hN
        obtain rfl := r1
        go_wp2_with fail
        go_round
        case rel => exact ⟨k + 1, by omega, by go_num, all_next hlt HA.out.1 HN.out⟩
        case measure => simp [intOf]; omega
      · have q46 : ((n : Int) == 46) = false := by simp; omega
        have q45 : ((n : Int) == 45) = false := by simp; omega
        have q95 : ((n : Int) == 95) = false := by simp; omega
        go_wp2_with fail
        go_ret
        exact ⟨false, rfl, rfl, fun h => by cases h⟩
      · obtain rfl := r1
        go_wp2_with fail
        go_ret
        exact ⟨false, rfl, rfl, fun h => by cases h⟩
      · have q46 : ((n : Int) == 46) = false := by simp; omega
        have q45 : ((n : Int) == 45) = false := by simp; omega
        have q95 : ((n : Int) == 95) = false := by simp; omega
        have q57 : decide ((n : Int) ≤ 57) = false := by simp; omega
        go_wp2_with fail
        go_ret
        exact ⟨false, rfl, rfl, fun h => by cases h⟩
      · have q46 : ((n : Int) == 46) = false := by simp; omega
        have q45 : ((n : Int) == 45) = false := by simp; omega
        have q95 : ((n : Int) == 95) = false := by simp; omega
        have q57 : decide ((n : Int) ≤ 57) = false := by simp; omega
        have q90 : decide ((n : Int) ≤ 90) = false := by simp; omega
        go_wp2_with fail
        go_ret
        exact ⟨false, rfl, rfl, fun h => by cases h⟩
      · obtain rfl := r1
        go_wp2_with fail
        go_ret
        exact ⟨false, rfl, rfl, fun h => by cases h⟩
      · have q46 : ((n : Int) == 46) = false := by simp; omega
        have q45 : ((n : Int) == 45) = false := by simp; omega
        have q95 : ((n : Int) == 95) = false := by simp; omega
        have q57 : decide ((n : Int) ≤ 57) = false := by simp; omega
        have q90 : decide ((n : Int) ≤ 90) = false := by simp; omega
        have q122 : decide ((n : Int) ≤ 122) = false := by simp; omega
        go_wp2_with fail
        go_ret
        exact ⟨false, rfl, rfl, fun h => by cases h⟩
    · obtain rfl : k = s.size := by omega
      have HA := Lib.hid ha
      clear ha
      go_wp2_with fail
      go_ret
      exact ⟨true, rfl, rfl, fun _ => all_end HA.out⟩
end Go.Proofs.YtglchiomdojjoaaGreatFmt
