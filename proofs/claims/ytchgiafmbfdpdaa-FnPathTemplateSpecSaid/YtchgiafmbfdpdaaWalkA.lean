/-
  The walk of the law that backslashes and slashes are one to the template parser; conditions: none (a template beyond the size guard answers at once).
-/
import Derived.Test.YtchgiafmbfdpdaaZz
namespace Go.Proofs.Ytchgiafmbfdpdaa
open Go.RowKit

set_option maxHeartbeats 400000 in
theorem zz5_small (s : ByteArray) (w : World) (hs : s.size ≤ 1048576) : Calls Try.prog 5 #[.string s] w fun e w' => e = .returned (.bool true) ∧ w = w' := by
  go_enter Try.func5, Try.ntmps5
  go_wp2
  go_ret
  exact ⟨rfl, rfl⟩
set_option maxHeartbeats 400000 in
theorem zz5_large (s : ByteArray) (w : World) (hs : 1048576 < s.size) : Calls Try.prog 5 #[.string s] w fun e w' => e = .returned (.bool false) ∧ w = w' := by
  go_enter Try.func5, Try.ntmps5
  go_wp2
  go_ret
  exact ⟨rfl, rfl⟩

theorem byte_eq {a b : UInt8} (h : ((a.toNat : Int) == (b.toNat : Int)) = true) : a = b := UInt8.toNat_inj.1 (by rw [beq_iff_eq] at h; omega)
theorem byte_ne {a b : UInt8} (h : ((a.toNat : Int) == (b.toNat : Int)) = false) : a ≠ b := fun e => by subst e; simp at h

theorem slashed_next (s : ByteArray) (k : Nat) (h : k < s.size) (m : List UInt8) (b : UInt8) (hm : m = slashed (s.data.toList.take k)) (hb : b = if s[k] = 92 then 47 else s[k]) : m ++ [b] = slashed (s.data.toList.take (k + 1)) := by
  have h' : k < s.data.toList.length := by rw [← Lib.size_eq]; exact h
  have e : s.data.toList[k] = s[k] := rfl
  unfold slashed
  rw [List.take_succ_eq_append_getElem h', List.map_append, hm, e, hb]
  rfl

set_option maxHeartbeats 400000 in
theorem slashed_any (s : ByteArray) (w : World) (hs : s.size ≤ 1048576) :
    Calls Try.prog 7 #[.string s] w fun e w' => e = .returned (.string (S (slashed s.data.toList))) ∧ Below w.heap.size w w' := by
  obtain ⟨i0, hi0, hz0, hz1, hz2⟩ := info_parts infoU8
  have HI := Lib.hid (And.intro hi0 (And.intro hz0 (And.intro hz1 hz2)))
  clear hi0 hz0 hz1 hz2
  go_enter Try.func7, Try.ntmps7
  go_wp2_with (at_make; refine wpList_make_own _ rfl _ _ 28 rfl w.heap.size 5 i0 (.int .u8 0) 1 Try.underlying28 HI.out.1 HI.out.2.1 HI.out.2.2.1 _ _ _ s.size rfl rfl (by omega) (by rw [HI.out.2.2.2]; omega) (by unfold maxLen; omega) (Nat.le_refl _) ?_; intro w2 hown hgrow)
  have hb := Buf.made hown hgrow (Below.refl _ _) (Nat.le_refl _)
  clear hown hgrow
  go_loopw [3, 4] (fun v i wr => ∃ (k : Nat) (m : List UInt8), k ≤ s.size ∧ i = .int .i64 k ∧ Buf w.heap.size 5 v m w wr ∧ m = slashed (s.data.toList.take k)) (fun _ i _ => s.size - (intOf i).toNat)
  case atStart => exact ⟨0, [], Nat.zero_le _, rfl, hb, rfl⟩
  case round =>
    clear hb
    obtain ⟨k, m, hk, rfl, hb, hm⟩ := hrel
    have hml : m.length ≤ 1048576 := by
      rw [hm, slashed_length]
      have h2 := List.length_take_le k s.data.toList
      omega
    have HM := Lib.hid hm
    clear hm
    by_cases hlt : k < s.size
    · by_cases h92 : ((s[k].toNat : Int) == 92) = true
      · go_wp2_with (at_builtin; refine buf_byte rfl (.tmp 20) (.tmp 22) 28 rfl w.heap.size 5 i0 Try.underlying28 HI.out.1 HI.out.2.1 HI.out.2.2.1 HI.out.2.2.2 _ m rfl w _ _ (47 : UInt8) rfl hb rfl (by omega) ?_; intro v' w' hb'; clear hb)
        refine ⟨⟨k + 1, _, by omega, by go_num, hb', slashed_next s k hlt m 47 HM.out ?_⟩, by simp [intOf]; omega⟩
        rw [if_pos (byte_eq (b := 92) h92)]
      · have h92' : ((s[k].toNat : Int) == 92) = false := by simpa using h92
        clear h92
        go_wp2_with (at_builtin; refine buf_byte rfl (.tmp 20) (.tmp 22) 28 rfl w.heap.size 5 i0 Try.underlying28 HI.out.1 HI.out.2.1 HI.out.2.2.1 HI.out.2.2.2 _ m rfl w _ _ s[k] rfl hb rfl (by omega) ?_; intro v' w' hb'; clear hb)
        refine ⟨⟨k + 1, _, by omega, by go_num, hb', slashed_next s k hlt m s[k] HM.out ?_⟩, by simp [intOf]; omega⟩
        rw [if_neg (byte_ne (b := 92) h92')]
    · have hfin : m = slashed s.data.toList := by
        rw [HM.out, List.take_of_length_le (by rw [← Lib.size_eq]; omega)]
      subst hfin
      have hcv := hb.convert (P := Try.prog) 28 9 Try.underlying28 Try.underlying5 Try.underlying9
      go_wp2
      go_ret
      exact ⟨rfl, hb.below⟩

theorem slashed_twice (l : List UInt8) : slashed (slashed l) = slashed l := by
  unfold slashed
  rw [List.map_map]
  congr 1
  funext b
  show (if (if b = 92 then (47 : UInt8) else b) = 92 then (47 : UInt8) else if b = 92 then 47 else b) = if b = 92 then 47 else b
  by_cases h : b = 92
  · subst h; decide
  · rw [if_neg h, if_neg h]
theorem tpl_slashed (l : List UInt8) : tpl (slashed l) = tpl l := by
  unfold tpl
  rw [slashed_twice]

set_option maxHeartbeats 1000000 in
set_option maxRecDepth 100000 in
theorem agnostic_some (s : ByteArray) (w : World) (h0 : s.toList.isEmpty = false) (hs : s.size ≤ 1048576) :
    Calls Try.prog 3 #[.string s] w fun e w' => e = .returned (.bool true) ∧ Below w.heap.size w w' := by
  have hnl := fun wx (a : Option Addr) (n c : Nat) => Lib.run_eql_slice_nil (P := Try.prog) wx 23 9 a n c 0 0 Try.underlying23
  have hd : decide ((1048576 : Int) < (s.size : Int)) = false := by simp; omega
  have hsl : (S (slashed s.data.toList)).size ≤ 1048576 := by rw [S_size, slashed_length, ← Lib.size_eq]; exact hs
  have hne : (S (slashed s.data.toList)).toList.isEmpty = false := by
    rw [Lib.toList_data] at h0
    rw [S_toList]
    cases hc : s.data.toList with
    | nil => rw [hc] at h0; simp at h0
    | cons b r => rfl
  have HN := Lib.hid hne
  clear hne
  have HZ : Hid (∀ w, Calls Try.prog 6 #[.string (S (slashed s.data.toList))] w (ZzPost (parts (tpl s.data.toList)) w)) := fun w => by
    have := zz_some (S (slashed s.data.toList)) w HN.out hsl
    rw [S_data, tpl_slashed] at this
    exact this
  go_enter Try.func3, Try.ntmps3
  go_wp2_with fail
  refine (zz5_small s _ hs).mono ?_
  rintro e w' ⟨rfl, rfl⟩
  go_wp2_with fail
  refine (zz_some s _ h0 hs).mono ?_
  rintro e w1 ⟨b1, b2, rfl, l1, l2, r1, r2, hb1⟩
  go_wp2_with fail
  refine (slashed_any s _ hs).mono ?_
  rintro e w2 ⟨rfl, hb2⟩
  have r1' := r1.below hb2 r1.lt
  have r2' := r2.below hb2 r2.lt
  clear r1 r2
  go_wp2_with fail
  refine (HZ.out _).mono ?_
  rintro e w3 ⟨b3, b4, rfl, l3, l4, r3, r4, hb3⟩
  have r1 := r1'.below hb3 r1'.lt
  have r2 := r2'.below hb3 r2'.lt
  clear r1' r2'
  have hbb : Below w.heap.size w w3 := (hb1.trans (hb2.mono hb1.size)).trans (hb3.mono (Nat.le_trans hb1.size hb2.size))
  clear hb1 hb2 hb3 HZ HN
  have hlen : (parts (tpl s.data.toList)).length ≤ 1048578 := by
    refine Nat.le_trans (split_length _ _ _) ?_
    unfold tpl
    rw [List.length_cons, List.length_cons, slashed_length, ← Lib.size_eq]
    omega
  generalize parts (tpl s.data.toList) = ps at *
  go_wp2_with fail
  go_loopw [7] (fun i wr => ∃ (k n : Nat), k ≤ ps.length ∧ i = .int .i64 k ∧ wr = w3.drewN n) (fun i _ => ps.length - (intOf i).toNat)
  case atStart => exact ⟨0, 0, Nat.zero_le _, rfl, rfl⟩
  case round =>
    obtain ⟨k, n, hk, rfl, rfl⟩ := hrel
    by_cases hlt : k < ps.length
    · have c1 := r1.cell hlt
      have c2 := r2.cell hlt
      have c3 := r3.cell hlt
      have c4 := r4.cell hlt
      have t1 : (0 : Int) ≤ (k : Int) := by omega
      have t2 : (k : Int) < (ps.length : Int) := by omega
      go_wp2_with fail
      go_quiet (fail)
      go_wp2_with fail
      exact ⟨⟨k + 1, n + nq, by omega, by go_num, rfl⟩, by simp [intOf]; omega⟩
    · go_wp2_with fail
      go_ret
      exact ⟨rfl, hbb.trans ⟨rfl, rfl, rfl, Nat.le_refl _, fun _ _ => rfl⟩⟩

theorem fnPathTemplateBackslashAgnostic_walk (s : ByteArray) (w : World) (_hs : s.size ≤ maxLen) :
    Calls Try.prog 3 #[.string s] w fun e w' => e = .returned (.bool true) ∧ Below w.heap.size w w' := by
  unfold maxLen at _hs
  by_cases hs : s.size ≤ 1048576
  · cases h0 : s.toList.isEmpty with
    | false => exact agnostic_some s w h0 hs
    | true =>
      have hnl := fun wx (a : Option Addr) (n c : Nat) => Lib.run_eql_slice_nil (P := Try.prog) wx 23 9 a n c 0 0 Try.underlying23
      have hd : decide ((1048576 : Int) < (s.size : Int)) = false := by simp; omega
      have hne : (S (slashed s.data.toList)).toList.isEmpty = true := by
        rw [Lib.toList_data] at h0
        rw [S_toList]
        cases hc : s.data.toList with
        | nil => rfl
        | cons b r => rw [hc] at h0; simp at h0
      have HN := Lib.hid hne
      clear hne
      go_enter Try.func3, Try.ntmps3
      go_wp2_with fail
      refine (zz5_small s _ hs).mono ?_
      rintro e w' ⟨rfl, rfl⟩
      go_wp2_with fail
      refine (zz_none s _ h0).mono ?_
      rintro e w' ⟨rfl, rfl⟩
      go_wp2_with fail
      refine (slashed_any s _ hs).mono ?_
      rintro e w2 ⟨rfl, hb2⟩
      go_wp2_with fail
      refine (zz_none (S (slashed s.data.toList)) _ HN.out).mono ?_
      rintro e w' ⟨rfl, rfl⟩
      go_wp2_with fail
      go_loop [7] (fun i => i = .int .i64 0) (fun _ => 0)
      case atStart => rfl
      case round =>
        subst hrel
        go_wp2_with fail
        go_ret
        exact ⟨rfl, hb2⟩
  · go_enter Try.func3, Try.ntmps3
    go_wp2_with fail
    refine (zz5_large s _ (by omega)).mono ?_
    rintro e w' ⟨rfl, rfl⟩
    go_wp2_with fail
    go_ret
    exact ⟨rfl, Below.refl _ _⟩

end Go.Proofs.Ytchgiafmbfdpdaa
