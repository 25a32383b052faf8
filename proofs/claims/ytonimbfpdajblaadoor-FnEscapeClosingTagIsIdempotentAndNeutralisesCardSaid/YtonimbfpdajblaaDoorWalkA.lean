/-
  The contracts of the small functions of the two laws, and the walk of the byte-scan law; conditions: what the listed tables hold, the sizes that each names.
-/
import Derived.Test.YtonimbfpdajblaaDoorTag
import Derived.Deep.QuietTactic
import Derived.BigQuiet
namespace Go.Proofs.YtonimbfpdajblaaDoor
open Go.RowKit

theorem drop_get (s : ByteArray) (k : Nat) (h : k < s.size) : s.data.toList.drop k = s[k] :: s.data.toList.drop (k + 1) := by
  have h' : k < s.data.toList.length := by rw [← Lib.size_eq]; exact h
  rw [List.drop_eq_getElem_cons h']
  rfl
theorem byte_eq {a b : UInt8} (h : ((a.toNat : Int) == (b.toNat : Int)) = true) : a = b := UInt8.toNat_inj.1 (by rw [beq_iff_eq] at h; omega)
theorem byte_ne {a b : UInt8} (h : ((a.toNat : Int) == (b.toNat : Int)) = false) : a ≠ b := fun e => by subst e; simp at h

set_option maxHeartbeats 400000 in
theorem low_any (b : UInt8) (w : World) : Calls Tryd.prog 17 #[.int .u8 b.toNat] w fun e w' => e = .returned (.int .u8 (lowN b).toNat) ∧ w' = w := by
  have hb := b.toNat_lt
  have e : ∀ v : UInt8, lowN b = v → lowN b = v := fun _ h => h
  go_enter Tryd.func17, Tryd.ntmps17
  by_cases h1 : 65 ≤ b.toNat
  · by_cases h2 : b.toNat ≤ 90
    · go_wp2
      go_ret
      refine ⟨ret_int ?_, rfl⟩
      unfold lowN
      rw [if_pos ⟨h1, h2⟩, UInt8.toNat_add, show (32 : UInt8).toNat = 32 from rfl]
      omega
    · go_wp2
      go_ret
      refine ⟨ret_int ?_, rfl⟩
      unfold lowN
      rw [if_neg (fun h => h2 h.2)]
  · go_wp2
    go_ret
    refine ⟨ret_int ?_, rfl⟩
    unfold lowN
    rw [if_neg (fun h => h1 h.1)]

theorem fold_ne (s p : ByteArray) (i k : Nat) (hk : k < p.size) (hik : i + k < s.size) (h : (((lowN s[i + k]).toNat : Int) != ((lowN p[k]).toNat : Int)) = true) : foldPre (s.data.toList.drop (i + k)) (p.data.toList.drop k) = false := by
  rw [drop_get s _ hik, drop_get p k hk, foldPre]
  have : lowN s[i + k] ≠ lowN p[k] := fun e => by rw [e] at h; simp at h
  rw [decide_eq_false this, Bool.false_and]
theorem fold_eq (s p : ByteArray) (i k : Nat) (hk : k < p.size) (hik : i + k < s.size) (h : (((lowN s[i + k]).toNat : Int) != ((lowN p[k]).toNat : Int)) = false) : foldPre (s.data.toList.drop (i + k)) (p.data.toList.drop k) = foldPre (s.data.toList.drop (i + (k + 1))) (p.data.toList.drop (k + 1)) := by
  rw [drop_get s _ hik, drop_get p k hk, foldPre]
  have : lowN s[i + k] = lowN p[k] := byte_eq (by rw [bne, Bool.not_eq_false'] at h; exact h)
  rw [decide_eq_true this, Bool.true_and]
  rfl

set_option maxHeartbeats 400000 in
theorem foldAt_any (s p : ByteArray) (i : Nat) (w : World) (hs : s.size ≤ 1099511627776) (hp : p.size ≤ 1099511627776) (hi : i ≤ s.size) :
    Calls Tryd.prog 11 #[.string s, .int .i64 i, .string p] w fun e w' => e = .returned (.bool (foldPre (s.data.toList.drop i) p.data.toList)) ∧ ∃ n, w' = w.drewN n := by
  by_cases hroom : s.size - i < p.size
  · have hd1 : decide ((s.size : Int) - i < p.size) = true := by simp; omega
    go_enter Tryd.func11, Tryd.ntmps11
    go_wp2
    go_ret
    exact ⟨ret_bool (foldPre_short _ _ (by rw [List.length_drop, ← Lib.size_eq, ← Lib.size_eq]; exact hroom)).symm, 0, rfl⟩
  · have hd1 : decide ((s.size : Int) - i < p.size) = false := by simp; omega
    go_enter Tryd.func11, Tryd.ntmps11
    go_wp2
    go_loopw [7] (fun j wr => ∃ k : Nat, k ≤ p.size ∧ j = .int .i64 k ∧ foldPre (s.data.toList.drop i) p.data.toList = foldPre (s.data.toList.drop (i + k)) (p.data.toList.drop k) ∧ ∃ n, wr = w.drewN n) (fun j _ => p.size - (intOf j).toNat)
    case atStart => exact ⟨0, Nat.zero_le _, rfl, rfl, 0, rfl⟩
    case round =>
      obtain ⟨k, hk, rfl, hno, n, rfl⟩ := hrel
      have HN := Lib.hid hno
      clear hno
      by_cases hlt : k < p.size
      · have b1 : (0 : Int) ≤ (i : Int) + k := by omega
        have b2 : ((i : Int) + k) < s.size := by omega
        have b3 : i + k < s.size := by omega
        go_wp2
        go_big_quiet ((go_at_call 17; exact (low_any _ _).mono fun _ _ ⟨he, hm⟩ => ⟨he, _, hm⟩))
        go_wp2
        · have hc : (((lowN s[i + k]).toNat : Int) != ((lowN p[k]).toNat : Int)) = true := by assumption
          go_ret
          exact ⟨ret_bool (HN.out.trans (fold_ne s p i k hlt b3 hc)).symm, n + nq, by simp⟩
        · have hc : (((lowN s[i + k]).toNat : Int) != ((lowN p[k]).toNat : Int)) = false := by assumption
          exact ⟨⟨k + 1, by omega, by go_num, HN.out.trans (fold_eq s p i k hlt b3 hc), n + nq, by simp⟩, by simp [intOf]; omega⟩
      · go_wp2
        go_ret
        refine ⟨ret_bool ?_, n, rfl⟩
        have := HN.out
        rw [this, show p.data.toList.drop k = [] from List.drop_eq_nil_of_le (by rw [← Lib.size_eq]; omega)]
        unfold foldPre
        rfl

def AsciiRet (s : ByteArray) (e : Ending) : Prop := ∃ b, e = .returned (.bool b) ∧ (b = true → Ascii s)
set_option maxHeartbeats 400000 in
set_option maxRecDepth 100000 in
theorem ascii_any (s : ByteArray) (w : World) (hs : s.size ≤ 1099511627776) :
    Calls Tryd.prog 6 #[.string s] w fun e w' => AsciiRet s e ∧ w = w' := by
  go_enter Tryd.func6, Tryd.ntmps6
  go_wp2
  go_loop [3] (fun i => ∃ k : Nat, k ≤ s.size ∧ i = .int .i64 k ∧ ∀ (j : Nat) b, j < k → s.data.toList[j]? = some b → b.toNat < 128) (fun i => s.size - (intOf i).toNat)
  case atStart => exact ⟨0, Nat.zero_le _, rfl, fun j b h => absurd h (Nat.not_lt_zero _)⟩
  case round =>
    obtain ⟨k, hk, rfl, hno⟩ := hrel
    have HN := Lib.hid hno
    clear hno
    by_cases hlt : k < s.size
    · go_wp2
      · go_ret
        exact ⟨⟨false, rfl, fun h => by cases h⟩, rfl⟩
      · have hc : (s[k].toNat : Int) < 128 := by assumption
        refine ⟨⟨k + 1, by omega, by go_num, ?_⟩, by simp [intOf]; omega⟩
        intro j b hj hjb
        rcases Nat.lt_succ_iff_lt_or_eq.1 hj with h | rfl
        · exact HN.out j b h hjb
        · have := Lib.data_getElem? s j hlt
          rw [this] at hjb
          injection hjb with e
          rw [← e]
          omega
    · go_wp2
      go_ret
      refine ⟨⟨true, rfl, fun _ => ?_⟩, rfl⟩
      intro j b hjb
      refine HN.out j b ?_ hjb
      have := (List.getElem?_eq_some_iff.1 hjb).1
      rw [← Lib.size_eq] at this
      omega


theorem getElem_mem' (s : ByteArray) (k : Nat) (h : k < s.size) : s[k] ∈ s.data.toList := by
  have := Lib.data_getElem? s k h
  exact List.mem_of_getElem? this
theorem mem_take_succ (s : ByteArray) (k : Nat) (h : k < s.size) (c : UInt8) : c ∈ s.data.toList.take (k + 1) ↔ c ∈ s.data.toList.take k ∨ c = s[k] := by
  have h' : k < s.data.toList.length := by rw [← Lib.size_eq]; exact h
  have e : s.data.toList[k] = s[k] := rfl
  rw [List.take_succ_eq_append_getElem h', List.mem_append, List.mem_singleton, e]
def memB (l : List UInt8) (c : UInt8) : Bool := decide (c ∈ l)
theorem memB_no {l : List UInt8} {c : UInt8} (h : c ∉ l) : memB l c = false := decide_eq_false h
theorem memB_yes {l : List UInt8} {c : UInt8} (h : c ∈ l) : memB l c = true := decide_eq_true h

set_option maxHeartbeats 400000 in
theorem hasByte_any (s : ByteArray) (c : UInt8) (w : World) (hs : s.size ≤ 1099511627776) :
    Calls Tryd.prog 10 #[.string s, .int .u8 c.toNat] w fun e w' => e = .returned (.bool (memB s.data.toList c)) ∧ w = w' := by
  go_enter Tryd.func10, Tryd.ntmps10
  go_wp2
  go_loop [5] (fun i => ∃ k : Nat, k ≤ s.size ∧ i = .int .i64 k ∧ c ∉ s.data.toList.take k) (fun i => s.size - (intOf i).toNat)
  case atStart => exact ⟨0, Nat.zero_le _, rfl, by simp⟩
  case round =>
    obtain ⟨k, hk, rfl, hno⟩ := hrel
    have HN := Lib.hid hno
    clear hno
    by_cases hlt : k < s.size
    · go_wp2
      · have hc : ((s[k].toNat : Int) == (c.toNat : Int)) = true := by assumption
        go_ret
        exact ⟨ret_bool (memB_yes (byte_eq hc ▸ getElem_mem' s k hlt)).symm, rfl⟩
      · have hc : ((s[k].toNat : Int) == (c.toNat : Int)) = false := by assumption
        refine ⟨⟨k + 1, by omega, by go_num, ?_⟩, by simp [intOf]; omega⟩
        rw [mem_take_succ s k hlt]
        rintro (h | h)
        · exact HN.out h
        · exact byte_ne hc h.symm
    · go_wp2
      go_ret
      refine ⟨ret_bool (memB_no ?_).symm, rfl⟩
      have := HN.out
      rwa [List.take_of_length_le (by rw [← Lib.size_eq]; omega)] at this

set_option maxHeartbeats 400000 in
theorem zz5_yes (a b : ByteArray) (w : World) (hs : a.size + b.size ≤ 1048576) : Calls Tryd.prog 5 #[.string a, .string b] w fun e w' => e = .returned (.bool true) ∧ w = w' := by
  have h1 : a.size ≤ 1048576 := by omega
  have h2 : b.size ≤ 1048576 := by omega
  go_enter Tryd.func5, Tryd.ntmps5
  go_wp2
  go_ret
  exact ⟨rfl, rfl⟩
set_option maxHeartbeats 400000 in
theorem zz5_no (a b : ByteArray) (w : World) (hs : 1048576 < a.size + b.size) : Calls Tryd.prog 5 #[.string a, .string b] w fun e w' => e = .returned (.bool false) ∧ w = w' := by
  go_enter Tryd.func5, Tryd.ntmps5
  by_cases h1 : a.size ≤ 1048576
  · by_cases h2 : b.size ≤ 1048576
    · go_wp2
      go_ret
      exact ⟨rfl, rfl⟩
    · go_wp2
      go_ret
      exact ⟨rfl, rfl⟩
  · go_wp2
    go_ret
    exact ⟨rfl, rfl⟩
set_option maxHeartbeats 400000 in
theorem zz9_yes (a b : ByteArray) (w : World) (hs : a.size + b.size ≤ 1048576) : Calls Tryd.prog 9 #[.string a, .string b] w fun e w' => e = .returned (.bool true) ∧ w = w' := by
  have h1 : a.size ≤ 1048576 := by omega
  have h2 : b.size ≤ 1048576 := by omega
  go_enter Tryd.func9, Tryd.ntmps9
  go_wp2
  go_ret
  exact ⟨rfl, rfl⟩
set_option maxHeartbeats 400000 in
theorem zz9_no (a b : ByteArray) (w : World) (hs : 1048576 < a.size + b.size) : Calls Tryd.prog 9 #[.string a, .string b] w fun e w' => e = .returned (.bool false) ∧ w = w' := by
  go_enter Tryd.func9, Tryd.ntmps9
  by_cases h1 : a.size ≤ 1048576
  · by_cases h2 : b.size ≤ 1048576
    · go_wp2
      go_ret
      exact ⟨rfl, rfl⟩
    · go_wp2
      go_ret
      exact ⟨rfl, rfl⟩
  · go_wp2
    go_ret
    exact ⟨rfl, rfl⟩

end Go.Proofs.YtonimbfpdajblaaDoor
