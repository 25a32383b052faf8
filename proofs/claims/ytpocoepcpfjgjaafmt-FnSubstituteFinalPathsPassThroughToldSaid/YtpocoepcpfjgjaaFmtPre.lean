/-
  The contracts of HasPrefix, HasSuffix and of the laws' own helpers on texts; conditions: the sizes that each names.
-/
import Derived.Test.YtpocoepcpfjgjaaFmtProg
import Derived.Test.YtpocoepcpfjgjaaFmtStr
import Derived.Lib.Strings
namespace Go.Proofs.YtpocoepcpfjgjaaFmt
open Go.RowKit

set_option maxHeartbeats 400000 in
theorem hasPrefix_val (s p : ByteArray) (r : Bool) (w : World) (_hs : s.size ≤ 140737488355328) (_hp : p.size ≤ 140737488355328) (hr : Lib.hasPrefix s.data.toList p.data.toList = r) :
    Calls Tryf.prog 26 #[.string s, .string p] w fun e w' => e = .returned (.bool r) ∧ w = w' := by
  rw [← Lib.hasPrefix_raw s p] at hr
  have HR := Lib.hid hr
  clear hr
  by_cases h : p.size ≤ s.size
  · have hd : decide ((p.size : Int) ≤ s.size) = true := by simp; omega
    go_enter Tryf.func26, Tryf.ntmps26
    go_wp2
    go_ret
    refine ⟨ret_bool ?_, rfl⟩
    rw [← HR.out]
    simp [h]
  · have hd : decide ((p.size : Int) ≤ s.size) = false := by simp; omega
    go_enter Tryf.func26, Tryf.ntmps26
    go_wp2
    go_ret
    refine ⟨ret_bool ?_, rfl⟩
    rw [← HR.out]
    simp [h]
set_option maxHeartbeats 400000 in
theorem hp11_val (s p : ByteArray) (r : Bool) (w : World) (_hs : s.size ≤ 140737488355328) (_hp : p.size ≤ 140737488355328) (hr : Lib.hasPrefix s.data.toList p.data.toList = r) :
    Calls Tryf.prog 11 #[.string s, .string p] w fun e w' => e = .returned (.bool r) ∧ w = w' := by
  rw [← Lib.hasPrefix_raw s p] at hr
  have HR := Lib.hid hr
  clear hr
  by_cases h : p.size ≤ s.size
  · have hd : decide ((p.size : Int) ≤ s.size) = true := by simp; omega
    go_enter Tryf.func11, Tryf.ntmps11
    go_wp2
    go_ret
    refine ⟨ret_bool ?_, rfl⟩
    rw [← HR.out]
    simp [h]
  · have hd : decide ((p.size : Int) ≤ s.size) = false := by simp; omega
    go_enter Tryf.func11, Tryf.ntmps11
    go_wp2
    go_ret
    refine ⟨ret_bool ?_, rfl⟩
    rw [← HR.out]
    simp [h]
set_option maxHeartbeats 400000 in
theorem hasSuffix_val (s p : ByteArray) (r : Bool) (w : World) (_hs : s.size ≤ 140737488355328) (_hp : p.size ≤ 140737488355328) (hr : Lib.hasSuffix s.data.toList p.data.toList = r) :
    Calls Tryf.prog 29 #[.string s, .string p] w fun e w' => e = .returned (.bool r) ∧ w = w' := by
  rw [← Lib.hasSuffix_raw s p] at hr
  have HR := Lib.hid hr
  clear hr
  by_cases h : p.size ≤ s.size
  · have hd : decide ((p.size : Int) ≤ s.size) = true := by simp; omega
    have hk : (s.size : Int) - (p.size : Int) = ((s.size - p.size : Nat) : Int) := by omega
    go_enter Tryf.func29, Tryf.ntmps29
    go_wp2
    go_ret
    refine ⟨ret_bool ?_, rfl⟩
    rw [← HR.out]
    simp [h]
  · have hd : decide ((p.size : Int) ≤ s.size) = false := by simp; omega
    go_enter Tryf.func29, Tryf.ntmps29
    go_wp2
    go_ret
    refine ⟨ret_bool ?_, rfl⟩
    rw [← HR.out]
    simp [h]

inductive Toks : List UInt8 → Prop
  | nil : Toks []
  | one {p : List UInt8} : Toks p → Toks (47 :: p)
  | two {p : List UInt8} : Toks p → Toks (46 :: 47 :: p)
theorem Toks.add {p q : List UInt8} (h : Toks p) (hq : Toks q) : Toks (p ++ q) := by
  induction h with
  | nil => exact hq
  | one _ ih => exact Toks.one ih
  | two _ ih => exact Toks.two ih

theorem hp_one {l : List UInt8} (h : Lib.hasPrefix l [47] = true) : ∃ r, l = 47 :: r := by
  unfold Lib.hasPrefix at h
  obtain ⟨r, hr⟩ := List.isPrefixOf_iff_prefix.1 h
  exact ⟨r, hr.symm⟩
theorem hp_two {l : List UInt8} (h : Lib.hasPrefix l [46, 47] = true) : ∃ r, l = 46 :: 47 :: r := by
  unfold Lib.hasPrefix at h
  obtain ⟨r, hr⟩ := List.isPrefixOf_iff_prefix.1 h
  exact ⟨r, hr.symm⟩
theorem hp_self (a b : List UInt8) : Lib.hasPrefix (a ++ b) a = true := by
  unfold Lib.hasPrefix
  exact List.isPrefixOf_iff_prefix.2 ⟨b, rfl⟩

theorem byte_is {s : ByteArray} {i : Nat} {b : UInt8} {r : List UInt8} (h : s.data.toList.drop i = b :: r) : ∃ hi : i < s.size, s[i] = b ∧ s.data.toList.drop (i + 1) = r := by
  have hl : i < s.data.toList.length := by
    rcases Nat.lt_or_ge i s.data.toList.length with hlt | hge
    · exact hlt
    · rw [List.drop_eq_nil_of_le hge] at h
      cases h
  rw [List.drop_eq_getElem_cons hl] at h
  injection h with h1 h2
  exact ⟨by rw [Lib.size_eq]; exact hl, h1, h2⟩

set_option maxHeartbeats 2000000 in
set_option maxRecDepth 100000 in
theorem toks_yes (s : ByteArray) (w : World) (hs : s.size ≤ 1048576) (h : Toks s.data.toList) : Calls Tryf.prog 12 #[.string s] w fun e w' => e = .returned (.bool true) ∧ w = w' := by
  have H := Lib.hid h
  clear h
  go_enter Tryf.func12, Tryf.ntmps12
  go_wp2
  go_loop [3] (fun i => ∃ k : Nat, k ≤ s.size ∧ i = .int .i64 k ∧ Toks (s.data.toList.drop k)) (fun i => s.size - (intOf i).toNat)
  case atStart => exact ⟨0, Nat.zero_le _, rfl, H.out⟩
  case round =>
    obtain ⟨k, hk, rfl, ht⟩ := hrel
    obtain ⟨d, hd⟩ : ∃ d, s.data.toList.drop k = d := ⟨_, rfl⟩
    rw [hd] at ht
    cases ht with
    | nil =>
      have hge : s.size ≤ k := by rw [Lib.size_eq]; exact List.drop_eq_nil_iff.1 hd
      obtain rfl : k = s.size := by omega
      clear hd
      go_wp2
      go_ret
      exact ⟨rfl, rfl⟩
    | one hp =>
      obtain ⟨hi, hb, hr⟩ := byte_is hd
      rw [← hr] at hp
      have HP := Lib.hid hp
      clear hp hd hr
      have h47 : ((s[k].toNat : Int) == 47) = true := by rw [hb]; rfl
      clear hb
      go_wp2
      exact ⟨⟨k + 1, by omega, by go_num, HP.out⟩, by simp [intOf]; omega⟩
    | two hp =>
      obtain ⟨hi, hb, hr⟩ := byte_is hd
      obtain ⟨hi2, hb2, hr2⟩ := byte_is hr
      rw [← hr2] at hp
      have HP := Lib.hid hp
      clear hp hd hr hr2
      have h47 : ((s[k].toNat : Int) == 47) = false := by rw [hb]; rfl
      have h46 : ((s[k].toNat : Int) == 46) = true := by rw [hb]; rfl
      have h47b : ((s[k + 1].toNat : Int) == 47) = true := by rw [hb2]; rfl
      clear hb hb2
      go_wp2
      exact ⟨⟨k + 2, by omega, by go_num, HP.out⟩, by simp [intOf]; omega⟩

end Go.Proofs.YtpocoepcpfjgjaaFmt
