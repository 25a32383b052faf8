/-
  The contracts of the small functions of this seat: the two escapers, hasByte, hasAt, the size guards; conditions: the sizes that each names.
-/
import Derived.Test.YtgaglcalpcngbaaRepl
import Derived.Test.YtgaglcalpcngbaaPlain
import Derived.Deep.QuietTactic
import Derived.BigQuiet
namespace Go.Proofs.Ytgaglcalpcngbaa
open Go.RowKit

theorem replace1 (s old new : ByteArray) (c : UInt8) (n : List UInt8) (w : World) (hc : old.data.toList = [c]) (hnw : new.data.toList = n) (hn : n.length ≤ 6) (hs : s.size ≤ 134217728) :
    Calls Try.prog 18 #[.string s, .string old, .string new] w fun e w' => e = .returned (.string (S (rep1 c n s.data.toList))) ∧ Below w.heap.size w w' := by
  have e1 : old.size = 1 := by rw [Lib.size_eq, hc]; rfl
  have e2 : new.size = n.length := by rw [Lib.size_eq, hnw]
  have h1 : s.size * (new.size + 1) ≤ s.size * 7 := Nat.mul_le_mul_left _ (by omega)
  have h := replaceAll_any s old new w (by omega) (by omega) (by omega) (by omega)
  rw [hc, hnw, repl_one c n s.size _ (by rw [Lib.size_eq]; exact Nat.le_refl _)] at h
  exact h

set_option maxHeartbeats 400000 in
theorem html_any (s : ByteArray) (w : World) (hs : s.size ≤ 1048576) :
    Calls Try.prog 15 #[.string s] w fun e w' => e = .returned (.string (S (esc false s.data.toList))) ∧ Below w.heap.size w w' := by
  have l1 := rep1_length 38 [38, 97, 109, 112, 59] s.data.toList
  have l2 := rep1_length 60 [38, 108, 116, 59] (rep1 38 [38, 97, 109, 112, 59] s.data.toList)
  rw [← Lib.size_eq] at l1
  simp only [List.length_cons, List.length_nil] at l1 l2
  have HE := Lib.hid (esc_html s.data.toList)
  go_enter Try.func15, Try.ntmps15
  go_wp2_with fail
  refine (replace1 s _ _ 38 [38, 97, 109, 112, 59] _ rfl rfl (by decide) (by omega)).mono ?_
  rintro e w1 ⟨rfl, hb1⟩
  go_wp2_with fail
  refine (replace1 (S (rep1 38 [38, 97, 109, 112, 59] s.data.toList)) _ _ 60 [38, 108, 116, 59] _ rfl rfl (by decide) (by rw [S_size]; omega)).mono ?_
  rintro e w2 ⟨rfl, hb2⟩
  rw [S_data]
  go_wp2_with fail
  refine (replace1 (S (rep1 60 [38, 108, 116, 59] (rep1 38 [38, 97, 109, 112, 59] s.data.toList))) _ _ 62 [38, 103, 116, 59] _ rfl rfl (by decide) (by rw [S_size]; omega)).mono ?_
  rintro e w3 ⟨rfl, hb3⟩
  rw [S_data, HE.out]
  go_wp2_with fail
  go_ret
  exact ⟨rfl, (hb1.trans (hb2.mono hb1.size)).trans (hb3.mono (Nat.le_trans hb1.size hb2.size))⟩

set_option maxHeartbeats 400000 in
theorem attr_any (s : ByteArray) (w : World) (hs : s.size ≤ 1048576) :
    Calls Try.prog 17 #[.string s] w fun e w' => e = .returned (.string (S (esc true s.data.toList))) ∧ Below w.heap.size w w' := by
  have l0 := esc_length false s.data.toList
  have l1 := rep1_length 34 [38, 113, 117, 111, 116, 59] (esc false s.data.toList)
  rw [← Lib.size_eq] at l0
  simp only [List.length_cons, List.length_nil] at l1
  have HE := Lib.hid (esc_attr s.data.toList)
  go_enter Try.func17, Try.ntmps17
  go_wp2_with fail
  refine (html_any s _ hs).mono ?_
  rintro e w1 ⟨rfl, hb1⟩
  go_wp2_with fail
  refine (replace1 (S (esc false s.data.toList)) _ _ 34 [38, 113, 117, 111, 116, 59] _ rfl rfl (by decide) (by rw [S_size]; omega)).mono ?_
  rintro e w2 ⟨rfl, hb2⟩
  rw [S_data]
  go_wp2_with fail
  refine (replace1 (S (rep1 34 [38, 113, 117, 111, 116, 59] (esc false s.data.toList))) _ _ 39 [38, 97, 112, 111, 115, 59] _ rfl rfl (by decide) (by rw [S_size]; omega)).mono ?_
  rintro e w3 ⟨rfl, hb3⟩
  rw [S_data, HE.out]
  go_wp2_with fail
  go_ret
  exact ⟨rfl, (hb1.trans (hb2.mono hb1.size)).trans (hb3.mono (Nat.le_trans hb1.size hb2.size))⟩

set_option maxHeartbeats 400000 in
theorem zhtml_any (s : ByteArray) (w : World) (hs : s.size ≤ 1048576) :
    Calls Try.prog 8 #[.string s] w fun e w' => e = .returned (.string (S (esc false s.data.toList))) ∧ Below w.heap.size w w' := by
  go_enter Try.func8, Try.ntmps8
  go_wp2_with fail
  refine (html_any s _ hs).mono ?_
  rintro e w1 ⟨rfl, hb1⟩
  go_wp2_with fail
  go_ret
  exact ⟨rfl, hb1⟩

set_option maxHeartbeats 400000 in
theorem zattr_any (s : ByteArray) (w : World) (hs : s.size ≤ 1048576) :
    Calls Try.prog 12 #[.string s] w fun e w' => e = .returned (.string (S (esc true s.data.toList))) ∧ Below w.heap.size w w' := by
  go_enter Try.func12, Try.ntmps12
  go_wp2_with fail
  refine (attr_any s _ hs).mono ?_
  rintro e w1 ⟨rfl, hb1⟩
  go_wp2_with fail
  go_ret
  exact ⟨rfl, hb1⟩

theorem getElem_mem' (s : ByteArray) (k : Nat) (h : k < s.size) : s[k] ∈ s.data.toList := by
  have := Lib.data_getElem? s k h
  exact List.mem_of_getElem? this

theorem mem_take_succ (s : ByteArray) (k : Nat) (h : k < s.size) (c : UInt8) : c ∈ s.data.toList.take (k + 1) ↔ c ∈ s.data.toList.take k ∨ c = s[k] := by
  have h' : k < s.data.toList.length := by rw [← Lib.size_eq]; exact h
  have e : s.data.toList[k] = s[k] := rfl
  rw [List.take_succ_eq_append_getElem h', List.mem_append, List.mem_singleton, e]

def memB (l : List UInt8) (c : UInt8) : Bool := decide (c ∈ l)
theorem memB_no {l : List UInt8} {c : UInt8} (h : c ∉ l) : memB l c = false := decide_eq_false h
theorem memB_yes {l : List UInt8} {c : UInt8} (h : c ∈ l) : memB l c = true := decide_eq_true h
theorem byte_eq {a b : UInt8} (h : ((a.toNat : Int) == (b.toNat : Int)) = true) : a = b := UInt8.toNat_inj.1 (by rw [beq_iff_eq] at h; omega)
theorem byte_ne {a b : UInt8} (h : ((a.toNat : Int) == (b.toNat : Int)) = false) : a ≠ b := fun e => by subst e; simp at h

set_option maxHeartbeats 400000 in
theorem hasByte_any (s : ByteArray) (c : UInt8) (w : World) (hs : s.size ≤ 1099511627776) :
    Calls Try.prog 9 #[.string s, .int .u8 c.toNat] w fun e w' => e = .returned (.bool (memB s.data.toList c)) ∧ w = w' := by
  go_enter Try.func9, Try.ntmps9
  go_wp2
  go_loop [5] (fun i => ∃ k : Nat, k ≤ s.size ∧ i = .int .i64 k ∧ c ∉ s.data.toList.take k) (fun i => s.size - (intOf i).toNat)
  case atStart => exact ⟨0, Nat.zero_le _, rfl, by simp⟩
  case round =>
    obtain ⟨k, hk, rfl, hno⟩ := hrel
    have HN := Lib.hid hno
    clear hno
    by_cases hlt : k < s.size
    · go_wp2
      · have hc : ((s[k].toNat : Int) == (c.toNat : Int)) = true := by assumption
        go_ret
        exact ⟨ret_bool (memB_yes (byte_eq hc ▸ getElem_mem' s k hlt)).symm, rfl⟩
      · have hc : ((s[k].toNat : Int) == (c.toNat : Int)) = false := by assumption
        refine ⟨⟨k + 1, by omega, by go_num, ?_⟩, by simp [intOf]; omega⟩
        rw [mem_take_succ s k hlt]
        rintro (h | h)
        · exact HN.out h
        · exact byte_ne hc h.symm
    · go_wp2
      go_ret
      refine ⟨ret_bool (memB_no ?_).symm, rfl⟩
      have := HN.out
      rwa [List.take_of_length_le (by rw [← Lib.size_eq]; omega)] at this

theorem occ_short (s p : ByteArray) (i : Nat) (h : s.size - i < p.size) : Lib.occAt s.data.toList p.data.toList i = false := by
  rw [Lib.size_eq, Lib.size_eq] at h
  unfold Lib.occAt
  rw [Bool.eq_false_iff]
  intro hp
  have := (List.isPrefixOf_iff_prefix.1 hp).length_le
  rw [List.length_drop] at this
  omega
theorem occ_ne (s p : ByteArray) (i k : Nat) (hk : k < p.size) (hik : i + k < s.size) (h : ((s[i + k].toNat : Int) != (p[k].toNat : Int)) = true) : Lib.occAt s.data.toList p.data.toList i = false := by
  unfold Lib.occAt
  rw [Bool.eq_false_iff]
  intro hp
  obtain ⟨r, hr⟩ := List.isPrefixOf_iff_prefix.1 hp
  have e1 := Lib.data_getElem? s (i + k) hik
  have e2 := Lib.data_getElem? p k hk
  have e3 : (s.data.toList.drop i)[k]? = some s[i + k] := by rw [List.getElem?_drop]; exact e1
  rw [← hr, List.getElem?_append_left (by rw [← Lib.size_eq]; exact hk), e2] at e3
  simp at e3
  rw [e3] at h
  simp at h
theorem occ_all (s p : ByteArray) (i : Nat) (h : (s.data.toList.drop i).take p.size = p.data.toList) : Lib.occAt s.data.toList p.data.toList i = true := by
  unfold Lib.occAt
  rw [List.isPrefixOf_iff_prefix]
  have e := List.take_append_drop p.size (s.data.toList.drop i)
  rw [h] at e
  exact ⟨_, e⟩
theorem occ_step (s p : ByteArray) (i k : Nat) (hk : k < p.size) (hik : i + k < s.size) (h : ((s[i + k].toNat : Int) != (p[k].toNat : Int)) = false) (ih : (s.data.toList.drop i).take k = p.data.toList.take k) :
    (s.data.toList.drop i).take (k + 1) = p.data.toList.take (k + 1) := by
  have e1 := Lib.data_getElem? s (i + k) hik
  have e2 := Lib.data_getElem? p k hk
  have e3 : (s.data.toList.drop i)[k]? = some s[i + k] := by rw [List.getElem?_drop]; exact e1
  have e4 : s[i + k] = p[k] := by
    apply byte_eq
    rw [bne, Bool.not_eq_false'] at h
    exact h
  rw [List.take_add_one, List.take_add_one, ih, e3, e2, e4]

set_option maxHeartbeats 400000 in
theorem hasAt_any (s p : ByteArray) (i : Nat) (w : World) (hs : s.size ≤ 1099511627776) (hp : p.size ≤ 1099511627776) (hi : i ≤ s.size) :
    Calls Try.prog 16 #[.string s, .int .i64 i, .string p] w fun e w' => e = .returned (.bool (Lib.occAt s.data.toList p.data.toList i)) ∧ ∃ n, w' = w.drewN n := by
  have hd0 : decide ((i : Int) < 0) = false := by simp
  by_cases hroom : s.size - i < p.size
  · have hd1 : decide ((s.size : Int) - i < p.size) = true := by simp; omega
    go_enter Try.func16, Try.ntmps16
    go_wp2
    go_ret
    exact ⟨ret_bool (occ_short s p i hroom).symm, 0, rfl⟩
  · have hd1 : decide ((s.size : Int) - i < p.size) = false := by simp; omega
    go_enter Try.func16, Try.ntmps16
    go_wp2
    go_loopw [7] (fun j wr => ∃ k : Nat, k ≤ p.size ∧ j = .int .i64 k ∧ (s.data.toList.drop i).take k = p.data.toList.take k ∧ ∃ n, wr = w.drewN n) (fun j _ => p.size - (intOf j).toNat)
    case atStart => exact ⟨0, Nat.zero_le _, rfl, by simp, 0, rfl⟩
    case round =>
      obtain ⟨k, hk, rfl, hno, n, rfl⟩ := hrel
      have HN := Lib.hid hno
      clear hno
      by_cases hlt : k < p.size
      · have b1 : (0 : Int) ≤ (i : Int) + k := by omega
        have b2 : ((i : Int) + k) < s.size := by omega
        have b3 : i + k < s.size := by omega
        go_wp2
        go_quiet (fail)
        go_wp2
        · have hc : ((s[i + k].toNat : Int) != (p[k].toNat : Int)) = true := by assumption
          go_ret
          exact ⟨ret_bool (occ_ne s p i k hlt b3 hc).symm, n + nq, by simp⟩
        · have hc : ((s[i + k].toNat : Int) != (p[k].toNat : Int)) = false := by assumption
          exact ⟨⟨k + 1, by omega, by go_num, occ_step s p i k hlt b3 hc HN.out, n + nq, rfl⟩, by simp [intOf]; omega⟩
      · go_wp2
        go_ret
        refine ⟨ret_bool (occ_all s p i ?_).symm, n, rfl⟩
        have := HN.out
        rw [show k = p.size by omega] at this
        rw [this, List.take_of_length_le (by rw [← Lib.size_eq]; exact Nat.le_refl _)]
end Go.Proofs.Ytgaglcalpcngbaa
