/-
  The contracts of comparing rows of bytes; conditions: those that each names.
-/
import Derived.Test.YtpjpdeecpobmlaaFmtGrd
import Derived.Deep.QuietTactic
import Derived.BigQuiet
namespace Go.Proofs.YtpjpdeecpobmlaaFmt
open Go.RowKit

set_option maxHeartbeats 2000000 in
set_option maxRecDepth 100000 in
theorem prefix_any (a1 : Option Addr) (n1 c1 : Nat) (a2 : Option Addr) (n2 c2 : Nat) (h r : List UInt8) (w : World) (h1 : InRow w a1 n1 c1 (bc (h ++ r))) (h2 : InRow w a2 n2 c2 (bc (h))) :
    Calls Tryf.prog 11 #[.slice a1 n1 c1, .slice a2 n2 c2] w fun e w' => e = .returned (.bool true) ∧ ∃ q, w' = w.drewN q := by
  have hl1 := h1.len
  have hl2 := h2.len
  rw [bc_length] at hl1 hl2
  have hc1 := h1.cap
  have hc2 := h2.cap
  unfold maxLen at hc1 hc2
  obtain ⟨hc3, hc4⟩ := hc1
  obtain ⟨hc5, hc6⟩ := hc2
  have hle : n2 ≤ n1 := by rw [← hl1, ← hl2, List.length_append]; omega
  have H1 := Lib.hid h1
  have H2 := Lib.hid h2
  clear h1 h2 hl1 hl2
  go_enter Tryf.func11, Tryf.ntmps11
  go_wp2_with fail
  go_loopw [5] (fun s5 wr => ∃ k q : Nat, s5 = .int .i64 k ∧ k ≤ n2 ∧ wr = w.drewN q) (fun s5 _ => n2 - (intOf s5).toNat)
  case atStart => exact ⟨0, 0, rfl, Nat.zero_le _, rfl⟩
  case round =>
    obtain ⟨k, q, rfl, hk, rfl⟩ := hrel
    by_cases hlt : k < n2
    · obtain ⟨x, u, rfl, hu, hc⟩ := InRow.get (con := fun b : UInt8 => Value.int .u8 b.toNat) (xs := h ++ r) H1.out (i := k) (by omega)
      obtain ⟨y, v, rfl, hv, hd⟩ := InRow.get (con := fun b : UInt8 => Value.int .u8 b.toNat) (xs := h) H2.out (i := k) (by omega)
      have huv : u = v := by 
        have hk2 := (List.getElem?_eq_some_iff.1 hv).1
        rw [List.getElem?_append_left hk2] at hu
        exact Option.some.inj (hu.symm.trans hv)
      subst huv
      have t1 : (k : Int) < (n1 : Int) := by omega
      have t2 : (k : Int) < (n2 : Int) := by omega
      have t3 : ((u.toNat : Int) != (u.toNat : Int)) = false := by simp
      clear hu hv
      go_wp2_with fail
      go_quiet (fail)
      go_wp2_with fail
      exact ⟨⟨k + 1, q + nq, by go_num, by omega, by simp⟩, by simp [intOf]; omega⟩
    · go_wp2_with fail
      go_ret
      exact ⟨rfl, q, rfl⟩

set_option maxHeartbeats 2000000 in
set_option maxRecDepth 100000 in
theorem bytesEq_any (a1 : Option Addr) (n1 c1 : Nat) (a2 : Option Addr) (n2 c2 : Nat) (h : List UInt8) (w : World) (h1 : InRow w a1 n1 c1 (bc (h))) (h2 : InRow w a2 n2 c2 (bc (h))) :
    Calls Tryf.prog 12 #[.slice a1 n1 c1, .slice a2 n2 c2] w fun e w' => e = .returned (.bool true) ∧ ∃ q, w' = w.drewN q := by
  have hl1 := h1.len
  have hl2 := h2.len
  rw [bc_length] at hl1 hl2
  have hc1 := h1.cap
  have hc2 := h2.cap
  unfold maxLen at hc1 hc2
  obtain ⟨hc3, hc4⟩ := hc1
  obtain ⟨hc5, hc6⟩ := hc2
  have hle : n2 = n1 := by rw [← hl1, ← hl2]
  have H1 := Lib.hid h1
  have H2 := Lib.hid h2
  clear h1 h2 hl1 hl2
  go_enter Tryf.func12, Tryf.ntmps12
  go_wp2_with fail
  go_loopw [5] (fun s5 wr => ∃ k q : Nat, s5 = .int .i64 k ∧ k ≤ n1 ∧ wr = w.drewN q) (fun s5 _ => n1 - (intOf s5).toNat)
  case atStart => exact ⟨0, 0, rfl, Nat.zero_le _, rfl⟩
  case round =>
    obtain ⟨k, q, rfl, hk, rfl⟩ := hrel
    by_cases hlt : k < n1
    · obtain ⟨x, u, rfl, hu, hc⟩ := InRow.get (con := fun b : UInt8 => Value.int .u8 b.toNat) (xs := h) H1.out (i := k) (by omega)
      obtain ⟨y, v, rfl, hv, hd⟩ := InRow.get (con := fun b : UInt8 => Value.int .u8 b.toNat) (xs := h) H2.out (i := k) (by omega)
      have huv : u = v := by exact Option.some.inj (hu.symm.trans hv)
      subst huv
      have t1 : (k : Int) < (n1 : Int) := by omega
      have t2 : (k : Int) < (n2 : Int) := by omega
      have t3 : ((u.toNat : Int) != (u.toNat : Int)) = false := by simp
      clear hu hv
      go_wp2_with fail
      go_quiet (fail)
      go_wp2_with fail
      exact ⟨⟨k + 1, q + nq, by go_num, by omega, by simp⟩, by simp [intOf]; omega⟩
    · go_wp2_with fail
      go_ret
      exact ⟨rfl, q, rfl⟩

end Go.Proofs.YtpjpdeecpobmlaaFmt
