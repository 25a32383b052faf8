/-
  zzInverseName: the number of a word; conditions: those that each lemma names.
-/
import Derived.Test.YtmnoffiblcnjpaaNum
namespace Go.Proofs.Ytmnoffiblcnjpaa
open Go.RowKit

theorem index_at (l : List UInt8) (hd : l.Nodup) (j : Nat) (hj : j < l.length) : Lib.indexByte l l[j]! = (j : Int) := by
  induction l generalizing j with
  | nil => simp at hj
  | cons b l ih =>
    cases j with
    | zero => show Lib.indexByte (b :: l) b = _; simp [Lib.indexByte]
    | succ j =>
      have hj' : j < l.length := by simpa using hj
      have e : (b :: l)[j + 1]! = l[j]! := by
        rw [getElem!_pos (b :: l) (j + 1) hj, getElem!_pos l j hj']; rfl
      have hne : b ≠ l[j]! := by
        rintro rfl
        rw [getElem!_pos l j hj'] at hd
        exact (List.nodup_cons.1 hd).1 (List.getElem_mem hj')
      have hi := ih (List.nodup_cons.1 hd).2 j hj'
      rw [e, Lib.indexByte, hi, if_neg (by simpa using hne), if_neg (by rw [beq_iff_eq]; omega)]
      omega
/-- What is left of the number behind i letters. -/
def itq (n : Nat) : Nat → Nat → Nat
  | 0, q => q
  | i + 1, q => (itq n i q - 1) / n
theorem tl_nil {T : List UInt8} {q : Nat} (h : tl T q = []) : q = 0 := by
  rcases Nat.eq_zero_or_pos q with e | e
  · exact e
  · rw [tl_pos T e] at h; cases h
theorem tl_drop (T : List UInt8) (Q : Nat) : ∀ i, i ≤ (tl T Q).length → (tl T Q).drop i = tl T (itq T.length i Q)
  | 0, _ => rfl
  | i + 1, h => by
    have ih := tl_drop T Q i (by omega)
    have hp : 0 < itq T.length i Q := by
      rcases Nat.eq_zero_or_pos (itq T.length i Q) with e | e
      · rw [e, tl_zero] at ih
        have := congrArg List.length ih
        rw [List.length_drop, List.length_nil] at this
        omega
      · exact e
    rw [← List.drop_drop, ih, tl_pos T hp]
    rfl
theorem itq_pos (T : List UInt8) (Q : Nat) {i : Nat} (h : i < (tl T Q).length) : 0 < itq T.length i Q := by
  rcases Nat.eq_zero_or_pos (itq T.length i Q) with e | e
  · have ih := tl_drop T Q i (by omega)
    rw [e, tl_zero] at ih
    have := congrArg List.length ih
    rw [List.length_drop, List.length_nil] at this
    omega
  · exact e
theorem itq_end (T : List UInt8) (Q : Nat) : itq T.length (tl T Q).length Q = 0 := by
  have h := tl_drop T Q (tl T Q).length (Nat.le_refl _)
  rw [List.drop_length] at h
  exact tl_nil h.symm
theorem tl_get (T : List UInt8) (Q : Nat) {i : Nat} (h : i < (tl T Q).length) : (tl T Q)[i]! = T[(itq T.length i Q - 1) % T.length]! := by
  have h1 := tl_drop T Q i (by omega)
  rw [tl_pos T (itq_pos T Q h), List.drop_eq_getElem_cons h] at h1
  rw [getElem!_pos (tl T Q) i h]
  exact (List.cons.inj h1).1
theorem tl_len (T : List UInt8) (q : Nat) : (tl T q).length ≤ q := by
  induction q using Nat.strongRecOn with
  | _ q ih =>
    rcases Nat.eq_zero_or_pos q with e | e
    · subst e; rw [tl_zero]; exact Nat.le_refl _
    · rw [tl_pos T e, List.length_cons]
      have h1 : (q - 1) / T.length ≤ q - 1 := Nat.div_le_self _ _
      have := ih ((q - 1) / T.length) (by omega)
      omega
theorem itq_le (n Q : Nat) : ∀ i, itq n i Q ≤ Q
  | 0 => Nat.le_refl _
  | i + 1 => Nat.le_trans (Nat.le_trans (Nat.div_le_self _ _) (Nat.sub_le _ _)) (itq_le n Q i)
theorem itq_step {n Q i : Nat} (hp : 0 < itq n i Q) : 1 + (itq n i Q - 1) % n + n * itq n (i + 1) Q = itq n i Q := by
  have := Nat.mod_add_div (itq n i Q - 1) n
  rw [show itq n (i + 1) Q = (itq n i Q - 1) / n from rfl]
  omega
theorem back (c : UInt8) : ((c.toNat : Int)).toNat.toUInt8 = c := by simp
set_option maxHeartbeats 4000000 in
set_option maxRecDepth 100000 in
theorem inv_any (name h t : ByteArray) (k : Nat) (hname : name.data.toList = nm h.data.toList t.data.toList k) (hk : k < 9223372036854775808) (hh : 2 ≤ h.size) (ht : 2 ≤ t.size) (hh2 : h.size ≤ 64) (ht2 : t.size ≤ 64)
    (dh : h.data.toList.Nodup) (dt : t.data.toList.Nodup) (w : World) :
    Calls Try.prog 16 #[.string name, .string h, .string t] w fun e w' => e = .returned (.tuple #[.int .i64 k, .bool true]) ∧ w = w' := by
  obtain ⟨nh, hnh⟩ : ∃ nh, h.size = nh := ⟨_, rfl⟩
  obtain ⟨nt, hnt⟩ : ∃ nt, t.size = nt := ⟨_, rfl⟩
  have lh : h.data.toList.length = nh := by rw [size_len, hnh]
  have lt : t.data.toList.length = nt := by rw [size_len, hnt]
  obtain ⟨j, hj⟩ : ∃ j, k % nh = j := ⟨_, rfl⟩
  have hm : j < nh := by rw [← hj]; exact Nat.mod_lt _ (by omega)
  obtain ⟨Q, hq⟩ : ∃ Q, k / nh = Q := ⟨_, rfl⟩
  have hfin : j + nh * Q = k := by rw [← hj, ← hq]; exact Nat.mod_add_div k nh
  have hQ : Q < 9223372036854775808 := by rw [← hq]; exact Nat.lt_of_le_of_lt (Nat.div_le_self _ _) hk
  obtain ⟨Y, hY⟩ : ∃ Y : Nat, nh * Q = Y := ⟨_, rfl⟩
  have hYi : (nh : Int) * (Q : Int) = (Y : Int) := by rw [← hY]; exact (Int.natCast_mul _ _).symm
  rw [hY] at hfin
  have hl : name.data.toList = h.data.toList[j]! :: tl t.data.toList Q := by rw [hname]; unfold nm; rw [lh, hj, hq]
  obtain ⟨L, hL⟩ : ∃ L, (tl t.data.toList Q).length = L := ⟨_, rfl⟩
  have hLQ : L ≤ Q := by rw [← hL]; exact tl_len _ _
  have hsz : name.size = L + 1 := by rw [← size_len, hl, List.length_cons, hL]
  have h0 : 0 < name.size := by omega
  have hn0 : name[0] = h.data.toList[j]! := by
    rw [← at_get name 0 h0, hl]; rfl
  have c0 : ∀ w, Calls Try.prog 12 #[.string h, .int .u8 (name[0].toNat : Int)] w fun e w' => e = .returned (.int .i64 (j : Int)) ∧ w' = w := fun w => by
    have hc := Try.strings_IndexByte h (name[0].toNat : Int) w
    rwa [back, show Lib.indexByte h.data.toList name[0] = (j : Int) by rw [hn0]; exact index_at _ dh j (by omega)] at hc
  have e0 := itq_end t.data.toList Q
  rw [lt, hL] at e0
  have HF := Lib.hid (And.intro hl (And.intro dt (And.intro lt (And.intro hL e0))))
  clear hname hl hj hq hY hL e0 dh dt lh lt hn0
  go_enter Try.func16, Try.ntmps16
  go_wp2_with (go_at_call 12; refine (c0 _).mono ?_; rintro e w' ⟨rfl, hw⟩; obtain rfl := hw.symm; clear hw)
  go_loopw [10, 11] (fun s10 s11 wr => ∃ p : Nat, p ≤ L ∧ s11 = .int .i64 p ∧ s10 = .int .i64 (itq nt p Q) ∧ wr = w) (fun _ s11 _ => (intOf s11).toNat)
  case atStart => exact ⟨L, Nat.le_refl _, by first | rfl | (congr 1 <;> omega), by rw [HF.out.2.2.2.2]; rfl, by first | rfl | trivial⟩
  case round =>
    obtain ⟨p, hp, rfl, rfl, rfl⟩ := hrel
    by_cases hp1 : 1 ≤ p
    · obtain ⟨a, ha⟩ : ∃ a, itq nt p Q = a := ⟨_, rfl⟩
      obtain ⟨A, hA⟩ : ∃ A, itq nt (p - 1) Q = A := ⟨_, rfl⟩
      obtain ⟨z, hz⟩ : ∃ z, (A - 1) % nt = z := ⟨_, rfl⟩
      obtain ⟨Z, hZ⟩ : ∃ Z, nt * a = Z := ⟨_, rfl⟩
      have hzm : z < nt := by rw [← hz]; exact Nat.mod_lt _ (by omega)
      have hZi : (nt : Int) * (a : Int) = (Z : Int) := by rw [← hZ]; exact (Int.natCast_mul _ _).symm
      have hi : p - 1 < (tl t.data.toList Q).length := by rw [HF.out.2.2.2.1]; omega
      have hsum : 1 + z + Z = A := by
        have h1 := itq_pos _ _ hi
        rw [HF.out.2.2.1] at h1
        have h2 := itq_step h1
        rw [show p - 1 + 1 = p by omega, hA, ha, hz, hZ] at h2
        exact h2
      have hAQ : A ≤ Q := by rw [← hA]; exact itq_le nt Q (p - 1)
      have hpn : p < name.size := by omega
      have hch : name[p] = t.data.toList[z]! := by
        have h1 := tl_get t.data.toList Q hi
        rw [HF.out.2.2.1, hA, hz] at h1
        rw [← at_get name p hpn, HF.out.1, ← h1]
        obtain ⟨i, rfl⟩ : ∃ i, p = i + 1 := ⟨p - 1, by omega⟩
        simp
      have c1 : ∀ w, Calls Try.prog 12 #[.string t, .int .u8 (name[p].toNat : Int)] w fun e w' => e = .returned (.int .i64 (z : Int)) ∧ w' = w := fun w => by
        have hc := Try.strings_IndexByte t (name[p].toNat : Int) w
        rwa [back, show Lib.indexByte t.data.toList name[p] = (z : Int) by rw [hch]; exact index_at _ HF.out.2.1 z (by rw [HF.out.2.2.1]; omega)] at hc
      rw [ha]
      have HR := Lib.hid hA
      clear hch hi hz hZ ha hA
      go_wp2_with (go_at_call 12; refine (c1 _).mono ?_; rintro e w' ⟨rfl, hw⟩; obtain rfl := hw.symm; clear hw)
      go_roundw
      case rel => exact ⟨p - 1, by omega, by congr 1; omega, by rw [HR.out]; congr 1; omega, by first | rfl | trivial⟩
      case measure => simp [intOf]; omega
    · obtain rfl : p = 0 := by omega
      rw [show itq nt 0 Q = Q from rfl]
      go_wp2_with fail
      go_ret2
      refine ⟨?_, rfl⟩
      show Ending.returned (.tuple #[.int .i64 ((j : Int) + (Y : Int)), .bool true]) = _
      rw [show ((j : Int) + (Y : Int)) = (k : Int) by omega]
set_option maxHeartbeats 4000000 in
set_option maxRecDepth 100000 in
theorem ok_any (name h t : ByteArray) (k : Nat) (hname : name = S (nm h.data.toList t.data.toList k)) (hk : k < 9223372036854775808) (hh : 2 ≤ h.size) (ht : 2 ≤ t.size) (hh2 : h.size ≤ 64) (ht2 : t.size ≤ 64)
    (dh : h.data.toList.Nodup) (dt : t.data.toList.Nodup) (w : World) :
    Calls Try.prog 9 #[.string name, .int .i64 k, .string h, .string t] w fun e w' => e = .returned (.bool true) ∧ Below w.heap.size w w' := by
  have c15 := ref_any h t k hk hh ht hh2 ht2
  have c16 := inv_any name h t k (by rw [hname, S_data]) hk hh ht hh2 ht2 dh dt
  rw [← hname] at c15
  clear hname
  go_enter Try.func9, Try.ntmps9
  go_wp2_with fail
  refine (c15 _).mono ?_
  rintro e w1 ⟨rfl, hB1⟩
  have H1 := Lib.hid hB1
  clear hB1
  go_wp2_with fail
  refine (c16 _).mono ?_
  rintro e w2 ⟨rfl, rfl⟩
  go_wp2_with fail
  go_ret
  exact ⟨rfl, H1.out⟩
end Go.Proofs.Ytmnoffiblcnjpaa
