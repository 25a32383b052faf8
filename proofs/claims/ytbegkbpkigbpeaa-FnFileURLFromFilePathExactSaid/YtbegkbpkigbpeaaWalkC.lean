/-
  The walk of the law that tells the made URL exactly; conditions: none (an input beyond the size guard answers at once).
-/
import Derived.Test.YtbegkbpkigbpeaaWalkB
namespace Go.Proofs.Ytbegkbpkigbpeaa
open Go.RowKit

/-- What stands at a place of the path. -/
def sl1 (b : UInt8) : UInt8 := if b = 92 then 47 else b
theorem slashed_get (s : ByteArray) (k : Nat) (h : k < s.size) : (slashed s.data.toList)[k]? = some (sl1 s[k]) := by
  unfold slashed
  rw [List.getElem?_map, Lib.data_getElem? s k h]
  rfl
theorem head_get (s : ByteArray) (h : 0 < s.size) : (slashed s.data.toList).head? = some (sl1 s[0]) := by
  rw [List.head?_eq_getElem?]
  exact slashed_get s 0 h
theorem upath0 (s : ByteArray) (h : 0 < s.size) (hc : s[0] = 47 ∨ s[0] = 92) : upath s.data.toList = slashed s.data.toList := by
  unfold upath
  rw [if_pos]
  rw [head_get s h]
  rcases hc with hc | hc <;> rw [hc] <;> rfl
theorem upath1 (s : ByteArray) (hc : s.size = 0 ∨ ∃ h : 0 < s.size, s[0]'h ≠ 47 ∧ s[0]'h ≠ 92) : upath s.data.toList = 47 :: slashed s.data.toList := by
  unfold upath
  rw [if_neg]
  rcases hc with hc | ⟨h, h1, h2⟩
  · have : s.data.toList = [] := List.eq_nil_of_length_eq_zero (by rw [← Lib.size_eq]; exact hc)
    rw [this]
    simp [slashed]
  · rw [head_get s h]
    unfold sl1
    rw [if_neg h2]
    intro e
    exact h1 (Option.some.inj e)
theorem byte_eqb {a b : UInt8} (h : a = b) : ((a.toNat : Int) == (b.toNat : Int)) = true := by rw [h]; simp
theorem byte_neb {a b : UInt8} (h : a ≠ b) : ((a.toNat : Int) == (b.toNat : Int)) = false := by
  rw [beq_eq_false_iff_ne]
  intro e
  exact h (UInt8.toNat_inj.1 (by omega))
theorem byte_sameb {a b : UInt8} (h : a = b) : ((a.toNat : Int) != (b.toNat : Int)) = false := by rw [h]; simp

set_option maxHeartbeats 1000000 in
set_option maxRecDepth 100000 in
theorem exact_a (s : ByteArray) (w : World) (hs : s.size ≤ 1048576) (h0 : 0 < s.size) (hc : s[0] = 47) :
    Calls Try.prog 5 #[.string s] w fun e w' => e = .returned (.bool true) ∧ Below w.heap.size w w' := by
  have hu := upath0 s h0 (.inl hc)
  have q0 : decide ((0 : Int) < (s.size : Int)) = true := by simp; omega
  have q1 : ((s[0].toNat : Int) == 47) = true := byte_eqb (b := 47) hc
  clear hc
  have HU := Lib.hid hu
  clear hu
  have hd : decide ((1048576 : Int) < (s.size : Int)) = false := by simp; omega
  go_enter Try.func5, Try.ntmps5
  go_wp2_with fail
  refine (zz10_small s _ hs).mono ?_
  rintro e w' ⟨rfl, rfl⟩
  go_wp2_with fail
  refine (parts_any s _ (by omega)).mono ?_
  rintro e w1 ⟨rfl, hb1⟩
  unfold parts
  have hz : (S (upath s.data.toList)).size = s.size + 0 := by rw [S_size, HU.out, slashed_length, ← Lib.size_eq, Nat.add_zero]
  have hz1 : (((S (upath s.data.toList)).size : Int) != (s.size : Int) + 0) = false := by rw [hz]; simp
  have hz2 : (((S (upath s.data.toList)).size : Int) != (s.size : Int)) = false := by rw [hz]; simp
  have HZ := Lib.hid hz
  clear hz
  go_wp2_with fail
  go_loop [15] (fun i => ∃ k : Nat, k ≤ s.size ∧ i = .int .i64 k) (fun i => s.size - (intOf i).toNat)
  case atStart => exact ⟨0, Nat.zero_le _, rfl⟩
  case round =>
    obtain ⟨k, hk, rfl⟩ := hrel
    by_cases hlt : k < s.size
    · obtain ⟨hi, hg⟩ := S_get (upath s.data.toList) (k) (sl1 s[k]) (by rw [HU.out]; exact slashed_get s k hlt)
      by_cases h92 : s[k] = 92
      · have b1 : ((s[k].toNat : Int) == 92) = true := byte_eqb (b := 92) h92
        have b2 : (((S (upath s.data.toList))[k].toNat : Int) != 47) = false := byte_sameb (b := 47) (by rw [hg, h92]; rfl)
        clear hg h92
        go_wp2
        go_round
        case rel => exact ⟨k + 1, by omega, by go_num⟩
        case measure => simp [intOf]; omega
      · have b1 : ((s[k].toNat : Int) == 92) = false := byte_neb (b := 92) h92
        have b2 : (((S (upath s.data.toList))[k].toNat : Int) != (s[k].toNat : Int)) = false := byte_sameb (by rw [hg]; unfold sl1; rw [if_neg h92])
        clear hg h92
        go_wp2
        go_round
        case rel => exact ⟨k + 1, by omega, by go_num⟩
        case measure => simp [intOf]; omega
    · go_wp2
      go_ret
      exact ⟨rfl, hb1⟩

set_option maxHeartbeats 1000000 in
set_option maxRecDepth 100000 in
theorem exact_b (s : ByteArray) (w : World) (hs : s.size ≤ 1048576) (h0 : 0 < s.size) (hc : s[0] = 92) :
    Calls Try.prog 5 #[.string s] w fun e w' => e = .returned (.bool true) ∧ Below w.heap.size w w' := by
  have hu := upath0 s h0 (.inr hc)
  have q0 : decide ((0 : Int) < (s.size : Int)) = true := by simp; omega
  have q1 : ((s[0].toNat : Int) == 47) = false := byte_neb (b := 47) (by rw [hc]; decide)
  have q2 : ((s[0].toNat : Int) == 92) = true := byte_eqb (b := 92) hc
  clear hc
  have HU := Lib.hid hu
  clear hu
  have hd : decide ((1048576 : Int) < (s.size : Int)) = false := by simp; omega
  go_enter Try.func5, Try.ntmps5
  go_wp2_with fail
  refine (zz10_small s _ hs).mono ?_
  rintro e w' ⟨rfl, rfl⟩
  go_wp2_with fail
  refine (parts_any s _ (by omega)).mono ?_
  rintro e w1 ⟨rfl, hb1⟩
  unfold parts
  have hz : (S (upath s.data.toList)).size = s.size + 0 := by rw [S_size, HU.out, slashed_length, ← Lib.size_eq, Nat.add_zero]
  have hz1 : (((S (upath s.data.toList)).size : Int) != (s.size : Int) + 0) = false := by rw [hz]; simp
  have hz2 : (((S (upath s.data.toList)).size : Int) != (s.size : Int)) = false := by rw [hz]; simp
  have HZ := Lib.hid hz
  clear hz
  go_wp2_with fail
  go_loop [15] (fun i => ∃ k : Nat, k ≤ s.size ∧ i = .int .i64 k) (fun i => s.size - (intOf i).toNat)
  case atStart => exact ⟨0, Nat.zero_le _, rfl⟩
  case round =>
    obtain ⟨k, hk, rfl⟩ := hrel
    by_cases hlt : k < s.size
    · obtain ⟨hi, hg⟩ := S_get (upath s.data.toList) (k) (sl1 s[k]) (by rw [HU.out]; exact slashed_get s k hlt)
      by_cases h92 : s[k] = 92
      · have b1 : ((s[k].toNat : Int) == 92) = true := byte_eqb (b := 92) h92
        have b2 : (((S (upath s.data.toList))[k].toNat : Int) != 47) = false := byte_sameb (b := 47) (by rw [hg, h92]; rfl)
        clear hg h92
        go_wp2
        go_round
        case rel => exact ⟨k + 1, by omega, by go_num⟩
        case measure => simp [intOf]; omega
      · have b1 : ((s[k].toNat : Int) == 92) = false := byte_neb (b := 92) h92
        have b2 : (((S (upath s.data.toList))[k].toNat : Int) != (s[k].toNat : Int)) = false := byte_sameb (by rw [hg]; unfold sl1; rw [if_neg h92])
        clear hg h92
        go_wp2
        go_round
        case rel => exact ⟨k + 1, by omega, by go_num⟩
        case measure => simp [intOf]; omega
    · go_wp2
      go_ret
      exact ⟨rfl, hb1⟩

set_option maxHeartbeats 1000000 in
set_option maxRecDepth 100000 in
theorem exact_c (s : ByteArray) (w : World) (hs : s.size ≤ 1048576) (h0 : 0 < s.size) (hc : s[0] ≠ 47) (hd : s[0] ≠ 92) :
    Calls Try.prog 5 #[.string s] w fun e w' => e = .returned (.bool true) ∧ Below w.heap.size w w' := by
  have hu := upath1 s (.inr ⟨h0, hc, hd⟩)
  have q0 : decide ((0 : Int) < (s.size : Int)) = true := by simp; omega
  have q1 : ((s[0].toNat : Int) == 47) = false := byte_neb (b := 47) hc
  have q2 : ((s[0].toNat : Int) == 92) = false := byte_neb (b := 92) hd
  clear hc hd
  have HU := Lib.hid hu
  clear hu
  have hd : decide ((1048576 : Int) < (s.size : Int)) = false := by simp; omega
  obtain ⟨hj, hh⟩ := S_get (upath s.data.toList) 0 47 (upath_get0 _)
  have q3 : (((S (upath s.data.toList))[0].toNat : Int) != 47) = false := byte_sameb (b := 47) hh
  clear hh
  go_enter Try.func5, Try.ntmps5
  go_wp2_with fail
  refine (zz10_small s _ hs).mono ?_
  rintro e w' ⟨rfl, rfl⟩
  go_wp2_with fail
  refine (parts_any s _ (by omega)).mono ?_
  rintro e w1 ⟨rfl, hb1⟩
  unfold parts
  have hz : (S (upath s.data.toList)).size = s.size + 1 := by rw [S_size, HU.out, List.length_cons, slashed_length, ← Lib.size_eq]
  have hz1 : (((S (upath s.data.toList)).size : Int) != (s.size : Int) + 1) = false := by rw [hz]; simp
  have hz2 : (((S (upath s.data.toList)).size : Int) != (s.size : Int)) = true := by rw [hz, bne_iff_ne]; omega
  have HZ := Lib.hid hz
  clear hz
  go_wp2_with fail
  go_loop [15] (fun i => ∃ k : Nat, k ≤ s.size ∧ i = .int .i64 k) (fun i => s.size - (intOf i).toNat)
  case atStart => exact ⟨0, Nat.zero_le _, rfl⟩
  case round =>
    obtain ⟨k, hk, rfl⟩ := hrel
    by_cases hlt : k < s.size
    · obtain ⟨hi, hg⟩ := S_get (upath s.data.toList) (1 + k) (sl1 s[k]) (by rw [HU.out, Nat.add_comm, List.getElem?_cons_succ]; exact slashed_get s k hlt)
      by_cases h92 : s[k] = 92
      · have b1 : ((s[k].toNat : Int) == 92) = true := byte_eqb (b := 92) h92
        have b2 : (((S (upath s.data.toList))[1 + k].toNat : Int) != 47) = false := byte_sameb (b := 47) (by rw [hg, h92]; rfl)
        clear hg h92
        go_wp2
        go_round
        case rel => exact ⟨k + 1, by omega, by go_num⟩
        case measure => simp [intOf]; omega
      · have b1 : ((s[k].toNat : Int) == 92) = false := byte_neb (b := 92) h92
        have b2 : (((S (upath s.data.toList))[1 + k].toNat : Int) != (s[k].toNat : Int)) = false := byte_sameb (by rw [hg]; unfold sl1; rw [if_neg h92])
        clear hg h92
        go_wp2
        go_round
        case rel => exact ⟨k + 1, by omega, by go_num⟩
        case measure => simp [intOf]; omega
    · go_wp2
      go_ret
      exact ⟨rfl, hb1⟩

set_option maxHeartbeats 1000000 in
set_option maxRecDepth 100000 in
theorem exact_d (s : ByteArray) (w : World) (hs : s.size ≤ 1048576) (h0 : s.size = 0) :
    Calls Try.prog 5 #[.string s] w fun e w' => e = .returned (.bool true) ∧ Below w.heap.size w w' := by
  have hu := upath1 s (.inl h0)
  have q0 : decide ((0 : Int) < (s.size : Int)) = false := by rw [decide_eq_false_iff_not]; omega
  have h0' : s.size ≤ 0 := by omega
  clear h0
  have HU := Lib.hid hu
  clear hu
  have hd : decide ((1048576 : Int) < (s.size : Int)) = false := by simp; omega
  obtain ⟨hj, hh⟩ := S_get (upath s.data.toList) 0 47 (upath_get0 _)
  have q3 : (((S (upath s.data.toList))[0].toNat : Int) != 47) = false := byte_sameb (b := 47) hh
  clear hh
  go_enter Try.func5, Try.ntmps5
  go_wp2_with fail
  refine (zz10_small s _ hs).mono ?_
  rintro e w' ⟨rfl, rfl⟩
  go_wp2_with fail
  refine (parts_any s _ (by omega)).mono ?_
  rintro e w1 ⟨rfl, hb1⟩
  unfold parts
  have hz : (S (upath s.data.toList)).size = s.size + 1 := by rw [S_size, HU.out, List.length_cons, slashed_length, ← Lib.size_eq]
  have hz1 : (((S (upath s.data.toList)).size : Int) != (s.size : Int) + 1) = false := by rw [hz]; simp
  have hz2 : (((S (upath s.data.toList)).size : Int) != (s.size : Int)) = true := by rw [hz, bne_iff_ne]; omega
  have HZ := Lib.hid hz
  clear hz
  go_wp2_with fail
  go_loop [15] (fun i => ∃ k : Nat, k ≤ s.size ∧ i = .int .i64 k) (fun i => s.size - (intOf i).toNat)
  case atStart => exact ⟨0, Nat.zero_le _, rfl⟩
  case round =>
    obtain ⟨k, hk, rfl⟩ := hrel
    by_cases hlt : k < s.size
    · exact absurd hlt (by omega)
    · go_wp2
      go_ret
      exact ⟨rfl, hb1⟩

theorem fnFileURLFromFilePathExact_walk (s : ByteArray) (w : World) (_hs : s.size ≤ maxLen) :
    Calls Try.prog 5 #[.string s] w fun e w' => e = .returned (.bool true) ∧ Below w.heap.size w w' := by
  unfold maxLen at _hs
  by_cases hs : s.size ≤ 1048576
  · by_cases h0 : 0 < s.size
    · by_cases h1 : s[0] = 47
      · exact exact_a s w hs h0 h1
      · by_cases h2 : s[0] = 92
        · exact exact_b s w hs h0 h2
        · exact exact_c s w hs h0 h1 h2
    · exact exact_d s w hs (by omega)
  · go_enter Try.func5, Try.ntmps5
    go_wp2_with fail
    refine (zz10_large s _ (by omega)).mono ?_
    rintro e w' ⟨rfl, rfl⟩
    go_wp2_with fail
    go_ret
    exact ⟨rfl, Below.refl _ _⟩

end Go.Proofs.Ytbegkbpkigbpeaa
