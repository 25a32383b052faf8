/-
  The contracts of the laws' own small functions (the guards, zzHasSep, zzIsBadSeg) and of zzStringEntry; conditions: the sizes that they name.
-/
import Derived.Test.YtkgdbbpgaibihaaGreatFmtHas
import Derived.Test.YtkgdbbpgaibihaaGreatFmtSep
import Derived.Deep.QuietTactic
import Derived.BigQuiet
namespace Go.Proofs.YtkgdbbpgaibihaaGreatFmt
open Go.RowKit

def SomeBool (w : World) (e : Ending) (w' : World) : Prop := (∃ z, e = .returned (.bool z)) ∧ w = w'

set_option maxHeartbeats 400000 in
theorem isSep_any (b : UInt8) (w : World) : Calls Tryz.prog 11 #[.int .u8 b.toNat] w fun e w' => e = .returned (.bool (sepB b)) ∧ w = w' := by
  have hb := sep_iff b
  have HB := Lib.hid hb
  clear hb
  have hlt := b.toNat_lt
  obtain ⟨n, hn⟩ : ∃ n, b.toNat = n := ⟨_, rfl⟩
  rw [hn] at HB hlt ⊢
  clear hn
  by_cases h1 : n = 47
  · subst h1
    rw [HB.out.2 (.inl rfl)]
    go_enter Tryz.func11, Tryz.ntmps11
    go_wp2
    go_ret
    exact ⟨rfl, rfl⟩
  · by_cases h2 : n = 92
    · subst h2
      rw [HB.out.2 (.inr rfl)]
      go_enter Tryz.func11, Tryz.ntmps11
      go_wp2
      go_ret
      exact ⟨rfl, rfl⟩
    · have : sepB b = false := Bool.eq_false_iff.2 fun e => by rcases HB.out.1 e with h | h; exact h1 h; exact h2 h
      rw [this]
      have e1 : ((n : Int) == 47) = false := by rw [beq_eq_false_iff_ne]; omega
      have e2 : ((n : Int) == 92) = false := by rw [beq_eq_false_iff_ne]; omega
      go_enter Tryz.func11, Tryz.ntmps11
      go_wp2
      go_ret
      exact ⟨rfl, rfl⟩

def freeB (l : List UInt8) : Bool := l.all fun b => !sepB b
theorem freeB_iff (l : List UInt8) : freeB l = true ↔ Free l := by
  unfold freeB Free
  rw [List.all_eq_true]
  constructor
  · intro h b hb
    have := h b hb
    simpa using this
  · intro h b hb
    rw [h b hb]
    rfl

set_option maxHeartbeats 400000 in
theorem hasSep_any (s : ByteArray) (w : World) (hs : s.size ≤ 1099511627776) :
    Calls Tryz.prog 7 #[.string s] w fun e w' => e = .returned (.bool (!freeB s.data.toList)) ∧ w = w' := by
  go_enter Tryz.func7, Tryz.ntmps7
  go_wp2
  go_loop [3] (fun i => ∃ k : Nat, k ≤ s.size ∧ i = .int .i64 k ∧ Free (s.data.toList.take k)) (fun i => s.size - (intOf i).toNat)
  case atStart => exact ⟨0, Nat.zero_le _, rfl, by intro b hb; simp at hb⟩
  case round =>
    obtain ⟨k, hk, rfl, hno⟩ := hrel
    have HN := Lib.hid hno
    clear hno
    by_cases hlt : k < s.size
    · cases hc : sepB s[k]
      · have HC := Lib.hid hc
        clear hc
        go_wp2_with (go_at_call 11; refine (isSep_any s[k] _).mono ?_; rintro e w' ⟨rfl, rfl⟩; rw [HC.out])
        refine ⟨⟨k + 1, by omega, by go_num, ?_⟩, by simp [intOf]; omega⟩
        intro b hb
        rw [mem_take_succ s k hlt] at hb
        rcases hb with h | h
        · exact HN.out b h
        · rw [h]; exact HC.out
      · have HC := Lib.hid hc
        clear hc
        go_wp2_with (go_at_call 11; refine (isSep_any s[k] _).mono ?_; rintro e w' ⟨rfl, rfl⟩; rw [HC.out])
        go_ret
        refine ⟨ret_bool ?_, rfl⟩
        have : ¬ freeB s.data.toList = true := fun h => by
          have := (freeB_iff _).1 h _ (getElem_mem' s k hlt)
          rw [HC.out] at this
          cases this
        rw [Bool.eq_false_iff.2 this]
        rfl
    · go_wp2
      go_ret
      refine ⟨ret_bool ?_, rfl⟩
      have := HN.out
      rw [List.take_of_length_le (by rw [← Lib.size_eq]; omega)] at this
      rw [(freeB_iff _).2 this]
      rfl

/-- A segment that Node forbids. -/
def nodeM : List UInt8 := [110, 111, 100, 101, 95, 109, 111, 100, 117, 108, 101, 115]
def badS (l : List UInt8) : Bool := l == [46] || l == [46, 46] || l == nodeM
set_option maxHeartbeats 400000 in
theorem badSeg_any (s : ByteArray) (w : World) : Calls Tryz.prog 10 #[.string s] w fun e w' => e = .returned (.bool (badS s.data.toList)) ∧ w = w' := by
  have e0 : s.toList = s.data.toList := Lib.toList_data s
  have E := Lib.hid (show badS s.data.toList = (s.toList == [46] || s.toList == [46, 46] || s.toList == nodeM) by rw [e0]; rfl)
  clear e0
  cases h1 : (s.toList == [46]) <;> cases h2 : (s.toList == [46, 46]) <;> cases h3 : (s.toList == [110, 111, 100, 101, 95, 109, 111, 100, 117, 108, 101, 115])
  all_goals (
    go_enter Tryz.func10, Tryz.ntmps10
    go_wp2
    go_ret
    refine ⟨ret_bool ?_, rfl⟩
    have := E.out
    unfold nodeM at this
    rw [h1, h2, h3] at this
    exact this.symm)

set_option maxHeartbeats 1000000 in
theorem zz5_any (a b c d : ByteArray) (i : Bool) (w : World) (ha : a.size ≤ maxLen) (hb : b.size ≤ maxLen) (hc : c.size ≤ maxLen) (hd : d.size ≤ maxLen) :
    Calls Tryz.prog 5 #[.string a, .string b, .string c, .string d, .bool i] w (SomeBool w) := by
  unfold maxLen at ha hb hc hd
  go_enter Tryz.func5, Tryz.ntmps5
  go_wp2
  all_goals (go_ret; exact ⟨⟨_, rfl⟩, rfl⟩)
set_option maxHeartbeats 1000000 in
theorem zz9_any (a b c : ByteArray) (i : Bool) (w : World) (ha : a.size ≤ maxLen) (hb : b.size ≤ maxLen) (hc : c.size ≤ maxLen) :
    Calls Tryz.prog 9 #[.string a, .string b, .string c, .bool i] w (SomeBool w) := by
  unfold maxLen at ha hb hc
  go_enter Tryz.func9, Tryz.ntmps9
  go_wp2
  all_goals (go_ret; exact ⟨⟨_, rfl⟩, rfl⟩)

end Go.Proofs.YtkgdbbpgaibihaaGreatFmt
