/-
  The contracts of b2HasClosingStyle on bytes without a closing tag, and of the size guards; conditions: the sizes that each names.
-/
import Derived.Test.YtalnapcphdmjaaaDoorCls
namespace Go.Proofs.YtalnapcphdmjaaaDoor
open Go.RowKit

theorem clean_at (tag : List UInt8) : ∀ (l : List UInt8) (k : Nat) (c : UInt8), clean tag l = true → l[k]? = some c → hit tag c (l.drop (k + 1)) = false
  | [], k, c, _, h => by simp at h
  | d :: r, k, c, hc, h => by
    unfold clean at hc
    rw [Bool.and_eq_true] at hc
    cases k with
    | zero =>
      simp at h
      subst h
      simpa using hc.1
    | succ j =>
      rw [List.getElem?_cons_succ] at h
      exact clean_at tag r j c hc.2 h

theorem closes_val (s : ByteArray) (a : Option Addr) (cap : Nat) (i : Nat) (b : Bool) (w : World) (h : InRow w a s.size cap (Lib.byteCells s.data.toList)) (hs : s.size ≤ 1099511627776) (hi : i < s.size) (hb : closes s i = b) :
    Calls Tryd.prog 17 #[.slice a s.size cap, .int .i64 i] w fun e w' => e = .returned (.bool b) ∧ w = w' := by
  rw [← hb]
  exact closes_any s a cap i w h hs hi

set_option maxHeartbeats 1000000 in
theorem has_none (s : ByteArray) (a : Option Addr) (cap : Nat) (w : World) (h : InRow w a s.size cap (Lib.byteCells s.data.toList)) (hs : s.size ≤ 1099511627776) (hc : clean styleTag s.data.toList = true) :
    Calls Tryd.prog 10 #[.slice a s.size cap] w fun e w' => e = .returned (.bool false) ∧ w = w' := by
  have H := Lib.hid (And.intro h hc)
  clear h hc
  go_enter Tryd.func10, Tryd.ntmps10
  go_wp2
  go_loop [3] (fun i => ∃ k : Nat, k ≤ s.size ∧ i = .int .i64 k) (fun i => s.size - (intOf i).toNat)
  case atStart => exact ⟨0, Nat.zero_le _, rfl⟩
  case round =>
    obtain ⟨k, hk, rfl⟩ := hrel
    by_cases hlt : k < s.size
    · have hcl : closes s k = false := by
        rw [← closes_hit s k hlt]
        exact clean_at _ _ _ _ H.out.2 (Lib.data_getElem? s k hlt)
      have HC := Lib.hid hcl
      clear hcl
      go_wp2_with fail
      refine (closes_val s a cap k false _ H.out.1 hs hlt HC.out).mono ?_
      rintro e w' ⟨rfl, rfl⟩
      go_wp2_with fail
      exact ⟨⟨k + 1, by omega, by go_num⟩, by simp [intOf]; omega⟩
    · go_wp2
      go_ret
      exact ⟨rfl, rfl⟩

set_option maxHeartbeats 400000 in
theorem zz5_yes (m : Bool) (lim : Int) (a : Option Addr) (len cap : Nat) (n : Int) (b : ByteArray) (w : World) (hs : len + b.size ≤ 1048576) : Calls Tryd.prog 5 #[.bool m, .int .i64 lim, .slice a len cap, .int .i32 n, .string b] w fun e w' => e = .returned (.bool true) ∧ w = w' := by
  have h1 : len ≤ 1048576 := by omega
  have h2 : b.size ≤ 1048576 := by omega
  go_enter Tryd.func5, Tryd.ntmps5
  go_wp2
  go_ret
  exact ⟨rfl, rfl⟩
set_option maxHeartbeats 400000 in
theorem zz5_no (m : Bool) (lim : Int) (a : Option Addr) (len cap : Nat) (n : Int) (b : ByteArray) (w : World) (hs : 1048576 < len + b.size) : Calls Tryd.prog 5 #[.bool m, .int .i64 lim, .slice a len cap, .int .i32 n, .string b] w fun e w' => e = .returned (.bool false) ∧ w = w' := by
  go_enter Tryd.func5, Tryd.ntmps5
  by_cases h1 : len ≤ 1048576
  · by_cases h2 : b.size ≤ 1048576
    · go_wp2
      go_ret
      exact ⟨rfl, rfl⟩
    · go_wp2
      go_ret
      exact ⟨rfl, rfl⟩
  · go_wp2
    go_ret
    exact ⟨rfl, rfl⟩

end Go.Proofs.YtalnapcphdmjaaaDoor
