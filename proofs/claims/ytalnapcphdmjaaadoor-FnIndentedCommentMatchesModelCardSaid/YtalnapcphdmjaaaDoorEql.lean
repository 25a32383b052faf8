/-
  The contracts of b2Equal on rows that hold the same bytes, and of the second law's size guard; conditions: the sizes that each names.
-/
import Derived.Test.YtalnapcphdmjaaaDoorWalkA
namespace Go.Proofs.YtalnapcphdmjaaaDoor
open Go.RowKit

set_option maxHeartbeats 1000000 in
theorem equal_same (l : List UInt8) (a b : Option Addr) (ca cb : Nat) (w : World) (ha : InRow w a l.length ca (Lib.byteCells l)) (hb : InRow w b l.length cb (Lib.byteCells l)) (hl : l.length ≤ 1099511627776) :
    Calls Tryd.prog 14 #[.slice a l.length ca, .slice b l.length cb] w fun e w' => e = .returned (.bool true) ∧ ∃ q, w' = w.drewN q := by
  have H := Lib.hid (And.intro ha hb)
  clear ha hb
  go_enter Tryd.func14, Tryd.ntmps14
  go_wp2
  go_loopw [5] (fun i wr => ∃ k q : Nat, k ≤ l.length ∧ i = .int .i64 k ∧ w.drewN q = wr) (fun i _ => l.length - (intOf i).toNat)
  case atStart => exact ⟨0, 0, Nat.zero_le _, rfl, rfl⟩
  case round =>
    obtain ⟨k, q, hk, rfl, rfl⟩ := hrel
    by_cases hlt : k < l.length
    · obtain ⟨x1, b1, rfl, e1, c1⟩ := in_get H.out.1 hlt
      obtain ⟨x2, b2, rfl, e2, c2⟩ := in_get H.out.2 hlt
      have hbb : b2 = b1 := by rw [e1] at e2; exact (Option.some.inj e2).symm
      subst hbb
      clear e1 e2
      have t1 : (0 : Int) ≤ (k : Int) := by omega
      have t2 : (k : Int) < (l.length : Int) := by omega
      go_wp2_with fail
      go_quiet (fail)
      go_wp2_with fail
      first | exact ⟨⟨k + 1, q + nq, by omega, by go_num, rfl⟩, by simp [intOf]; omega⟩ | exact ⟨⟨k + 1, by omega, by go_num, q + nq, by simp⟩, by simp [intOf]; omega⟩ | exact ⟨⟨k + 1, q + nq, by omega, by go_num, by simp⟩, by simp [intOf]; omega⟩
    · go_wp2_with fail
      go_ret
      exact ⟨rfl, q, rfl⟩


set_option maxHeartbeats 400000 in
theorem zz11_yes (m : Bool) (lim : Int) (u : Bool) (a : Option Addr) (len cap : Nat) (n : Int) (b : ByteArray) (w : World) (hs : len + b.size ≤ 1048576) : Calls Tryd.prog 11 #[.bool m, .int .i64 lim, .bool u, .slice a len cap, .int .i32 n, .string b] w fun e w' => e = .returned (.bool true) ∧ w = w' := by
  have h1 : len ≤ 1048576 := by omega
  have h2 : b.size ≤ 1048576 := by omega
  go_enter Tryd.func11, Tryd.ntmps11
  go_wp2
  go_ret
  exact ⟨rfl, rfl⟩
set_option maxHeartbeats 400000 in
theorem zz11_no (m : Bool) (lim : Int) (u : Bool) (a : Option Addr) (len cap : Nat) (n : Int) (b : ByteArray) (w : World) (hs : 1048576 < len + b.size) : Calls Tryd.prog 11 #[.bool m, .int .i64 lim, .bool u, .slice a len cap, .int .i32 n, .string b] w fun e w' => e = .returned (.bool false) ∧ w = w' := by
  go_enter Tryd.func11, Tryd.ntmps11
  by_cases h1 : len ≤ 1048576
  · by_cases h2 : b.size ≤ 1048576
    · go_wp2
      go_ret
      exact ⟨rfl, rfl⟩
    · go_wp2
      go_ret
      exact ⟨rfl, rfl⟩
  · go_wp2
    go_ret
    exact ⟨rfl, rfl⟩

end Go.Proofs.YtalnapcphdmjaaaDoor
