/-
  The decoder of entities gives back the text whose escaped form it is handed; conditions: the text is at most 1 MiB long.
-/
import Derived.Test.YtgaglcalpcngbaaWalkC
namespace Go.Proofs.Ytgaglcalpcngbaa
open Go.RowKit

/-- w' is w but for some draws. -/
def Drawn (w w' : World) : Prop := ∃ n, w' = w.drewN n
theorem Buf.drawn {B : Nat} {e : TypeId} {v : Value} {l : List UInt8} {W0 w w' : World} (h : Buf B e v l W0 w) (hd : Drawn w w') : Buf B e v l W0 w' := by
  obtain ⟨n, rfl⟩ := hd
  exact Lib.OwnBuf.drewN h n
theorem Drawn.below {w w' : World} (hd : Drawn w w') (B : Nat) : Below B w w' := by
  obtain ⟨n, rfl⟩ := hd
  exact ⟨rfl, rfl, rfl, Nat.le_refl _, fun _ _ => rfl⟩

theorem hasAt_amp (s : ByteArray) (i : Nat) (r : Bool) (w : World) (hs : s.size ≤ 1099511627776) (hi : i ≤ s.size) (hr : Lib.occAt s.data.toList [38, 97, 109, 112, 59] i = r) :
    Calls Try.prog 16 #[.string s, .int .i64 i, .string ⟨#[38, 97, 109, 112, 59]⟩] w fun e w' => e = .returned (.bool r) ∧ Drawn w w' := by
  have h := hasAt_any s ⟨#[38, 97, 109, 112, 59]⟩ i w hs (by decide) hi
  rw [← hr]
  exact h

theorem hasAt_lt (s : ByteArray) (i : Nat) (r : Bool) (w : World) (hs : s.size ≤ 1099511627776) (hi : i ≤ s.size) (hr : Lib.occAt s.data.toList [38, 108, 116, 59] i = r) :
    Calls Try.prog 16 #[.string s, .int .i64 i, .string ⟨#[38, 108, 116, 59]⟩] w fun e w' => e = .returned (.bool r) ∧ Drawn w w' := by
  have h := hasAt_any s ⟨#[38, 108, 116, 59]⟩ i w hs (by decide) hi
  rw [← hr]
  exact h

theorem hasAt_gt (s : ByteArray) (i : Nat) (r : Bool) (w : World) (hs : s.size ≤ 1099511627776) (hi : i ≤ s.size) (hr : Lib.occAt s.data.toList [38, 103, 116, 59] i = r) :
    Calls Try.prog 16 #[.string s, .int .i64 i, .string ⟨#[38, 103, 116, 59]⟩] w fun e w' => e = .returned (.bool r) ∧ Drawn w w' := by
  have h := hasAt_any s ⟨#[38, 103, 116, 59]⟩ i w hs (by decide) hi
  rw [← hr]
  exact h

theorem hasAt_quot (s : ByteArray) (i : Nat) (r : Bool) (w : World) (hs : s.size ≤ 1099511627776) (hi : i ≤ s.size) (hr : Lib.occAt s.data.toList [38, 113, 117, 111, 116, 59] i = r) :
    Calls Try.prog 16 #[.string s, .int .i64 i, .string ⟨#[38, 113, 117, 111, 116, 59]⟩] w fun e w' => e = .returned (.bool r) ∧ Drawn w w' := by
  have h := hasAt_any s ⟨#[38, 113, 117, 111, 116, 59]⟩ i w hs (by decide) hi
  rw [← hr]
  exact h

theorem hasAt_apos (s : ByteArray) (i : Nat) (r : Bool) (w : World) (hs : s.size ≤ 1099511627776) (hi : i ≤ s.size) (hr : Lib.occAt s.data.toList [38, 97, 112, 111, 115, 59] i = r) :
    Calls Try.prog 16 #[.string s, .int .i64 i, .string ⟨#[38, 97, 112, 111, 115, 59]⟩] w fun e w' => e = .returned (.bool r) ∧ Drawn w w' := by
  have h := hasAt_any s ⟨#[38, 97, 112, 111, 115, 59]⟩ i w hs (by decide) hi
  rw [← hr]
  exact h

theorem occ_of (t : ByteArray) (q : Bool) (l : List UInt8) (ht : t.data.toList = esc q l) (k : Nat) (hk : k < l.length) (p : List UInt8) :
    Lib.occAt t.data.toList p (esc q (l.take k)).length = p.isPrefixOf (ent q l[k] ++ esc q (l.drop (k + 1))) := by
  unfold Lib.occAt
  rw [ht, esc_drop q l k hk]

theorem first_of (t : ByteArray) (q : Bool) (l : List UInt8) (ht : t.data.toList = esc q l) (k : Nat) (hk : k < l.length) (i : Nat) (hi : i = (esc q (l.take k)).length) (c : UInt8) (r : List UInt8) (hc : ent q l[k] = c :: r) :
    ∃ h : i < t.size, t[i]'h = c := by
  have h1 : t.data.toList[i]? = some c := by
    have e := esc_drop q l k hk
    rw [hc] at e
    have e2 := congrArg (fun x => x[0]?) e
    simp only [List.getElem?_drop, List.cons_append, List.getElem?_cons_zero] at e2
    rw [ht, hi]
    exact e2
  have h2 : i < t.size := by
    rw [Lib.size_eq]
    exact (List.getElem?_eq_some_iff.1 h1).1
  refine ⟨h2, ?_⟩
  have h3 := Lib.data_getElem? t i h2
  rw [h1] at h3
  exact (Option.some.inj h3).symm

theorem take_next (l : List UInt8) (k : Nat) (hk : k < l.length) (b : UInt8) (hb : l[k] = b) : l.take k ++ [b] = l.take (k + 1) := by
  rw [List.take_succ_eq_append_getElem hk, hb]

theorem len_next (q : Bool) (l : List UInt8) (k : Nat) (hk : k < l.length) (i n : Nat) (hi : i = (esc q (l.take k)).length) (hn : (ent q l[k]).length = n) : i + n = (esc q (l.take (k + 1))).length := by
  rw [esc_take q l k hk, List.length_append, hn, hi]

theorem ent_other (q : Bool) (b : UInt8) (h1 : b ≠ 38) (h2 : b ≠ 60) (h3 : b ≠ 62) (h4 : ¬ (q = true ∧ b = 34)) (h5 : ¬ (q = true ∧ b = 39)) : ent q b = [b] := by
  unfold ent
  rw [if_neg h1, if_neg h2, if_neg h3, if_neg h4, if_neg h5]

theorem ne38 (b : UInt8) (h : b ≠ 38) : ((b.toNat : Int) != 38) = true := by
  rw [bne_iff_ne]
  intro e
  exact h (UInt8.toNat_inj.1 (by have : (38 : UInt8).toNat = 38 := rfl; omega))

set_option maxHeartbeats 1000000 in
theorem decode_esc (q : Bool) (t : ByteArray) (l : List UInt8) (w : World) (ht0 : t.data.toList = esc q l) (hl : l.length ≤ 1048576) :
    Calls Try.prog 10 #[.string t, .bool q] w fun e w' => e = .returned (.tuple #[.string (S l), .bool true]) ∧ Below w.heap.size w w' := by
  have hsz : t.size ≤ 6291456 := by
    rw [Lib.size_eq, ht0]
    have := esc_length q l
    omega
  have HT := Lib.hid ht0
  clear ht0
  obtain ⟨i0, hi0, hz0, hz1, hz2⟩ := info_parts infoU8
  have HI := Lib.hid (And.intro hi0 (And.intro hz0 (And.intro hz1 hz2)))
  clear hi0 hz0 hz1 hz2
  go_enter Try.func10, Try.ntmps10
  go_wp2_with (at_make; refine wpList_make_own _ rfl _ _ 27 rfl w.heap.size 5 i0 (.int .u8 0) 1 Try.underlying27 HI.out.1 HI.out.2.1 HI.out.2.2.1 _ _ _ t.size rfl rfl (by omega) (by rw [HI.out.2.2.2]; omega) (by unfold maxLen; omega) (Nat.le_refl _) ?_; intro w2 hown hgrow)
  have hb := Buf.made hown hgrow (Below.refl _ _) (Nat.le_refl _)
  clear hown hgrow
  go_loopw [6, 7] (fun v i wr => ∃ (k j : Nat) (m : List UInt8), k ≤ l.length ∧ i = .int .i64 j ∧ Buf w.heap.size 5 v m w wr ∧ m = l.take k ∧ j = (esc q (l.take k)).length) (fun _ i _ => t.size - (intOf i).toNat)
  case atStart => exact ⟨0, 0, [], Nat.zero_le _, rfl, hb, rfl, rfl⟩
  case round =>
    clear hb
    obtain ⟨k, j, m, hk, rfl, hb, hm, hj⟩ := hrel
    have hml : m.length ≤ 1048576 := by rw [hm]; have := List.length_take_le k l; omega
    have HM := Lib.hid hm
    have HJ := Lib.hid hj
    clear hm hj
    by_cases hlt : k < l.length
    · have HO := Lib.hid (fun p => occ_of t q l HT.out k hlt p)
      have HF := Lib.hid (first_of t q l HT.out k hlt j HJ.out)
      by_cases hb38 : l[k] = 38
      · have hent : ent q l[k] = [38, 97, 109, 112, 59] := by rw [hb38]; rfl
        obtain ⟨hjt, hc⟩ := HF.out _ _ hent
        have hcn : ((t[j].toNat : Int) != 38) = false := by rw [hc]; rfl
        clear hc
        have O0 := Lib.hid (show Lib.occAt t.data.toList [38, 97, 109, 112, 59] j = true by have h := HO.out [38, 97, 109, 112, 59]; rw [hent, ← HJ.out] at h; rw [h]; rfl)
        have HE := Lib.hid hent
        clear hent
        clear HO HF
        go_wp2_with (first | (go_at_call 16; ((with_reducible refine (hasAt_amp t j _ _ (by omega) (by omega) O0.out).mono ?_); rintro e w1 ⟨rfl, hd1⟩; replace hb := hb.drawn hd1)) | (at_builtin; refine buf_byte rfl (.tmp 30) (.tmp 31) 27 rfl w.heap.size 5 i0 Try.underlying27 HI.out.1 HI.out.2.1 HI.out.2.2.1 HI.out.2.2.2 _ m rfl w _ _ (38 : UInt8) rfl hb rfl (by omega) ?_; intro v' w' hb'; clear hb))
        exact ⟨⟨k + 1, j + 5, _, by omega, by go_num, hb', by rw [HM.out]; exact take_next l k hlt _ hb38, len_next _ l k hlt j _ HJ.out (by rw [HE.out]; rfl)⟩, by simp [intOf]; omega⟩
      by_cases hb60 : l[k] = 60
      · have hent : ent q l[k] = [38, 108, 116, 59] := by rw [hb60]; rfl
        obtain ⟨hjt, hc⟩ := HF.out _ _ hent
        have hcn : ((t[j].toNat : Int) != 38) = false := by rw [hc]; rfl
        clear hc
        have O0 := Lib.hid (show Lib.occAt t.data.toList [38, 97, 109, 112, 59] j = false by have h := HO.out [38, 97, 109, 112, 59]; rw [hent, ← HJ.out] at h; rw [h]; rfl)
        have O1 := Lib.hid (show Lib.occAt t.data.toList [38, 108, 116, 59] j = true by have h := HO.out [38, 108, 116, 59]; rw [hent, ← HJ.out] at h; rw [h]; rfl)
        have HE := Lib.hid hent
        clear hent
        clear HO HF
        go_wp2_with (first | (go_at_call 16; ((with_reducible refine (hasAt_amp t j _ _ (by omega) (by omega) O0.out).mono ?_); rintro e w1 ⟨rfl, hd1⟩; replace hb := hb.drawn hd1)) | (go_at_call 16; ((with_reducible refine (hasAt_lt t j _ _ (by omega) (by omega) O1.out).mono ?_); rintro e w1 ⟨rfl, hd1⟩; replace hb := hb.drawn hd1)) | (at_builtin; refine buf_byte rfl (.tmp 38) (.tmp 39) 27 rfl w.heap.size 5 i0 Try.underlying27 HI.out.1 HI.out.2.1 HI.out.2.2.1 HI.out.2.2.2 _ m rfl w _ _ (60 : UInt8) rfl hb rfl (by omega) ?_; intro v' w' hb'; clear hb))
        exact ⟨⟨k + 1, j + 4, _, by omega, by go_num, hb', by rw [HM.out]; exact take_next l k hlt _ hb60, len_next _ l k hlt j _ HJ.out (by rw [HE.out]; rfl)⟩, by simp [intOf]; omega⟩
      by_cases hb62 : l[k] = 62
      · have hent : ent q l[k] = [38, 103, 116, 59] := by rw [hb62]; rfl
        obtain ⟨hjt, hc⟩ := HF.out _ _ hent
        have hcn : ((t[j].toNat : Int) != 38) = false := by rw [hc]; rfl
        clear hc
        have O0 := Lib.hid (show Lib.occAt t.data.toList [38, 97, 109, 112, 59] j = false by have h := HO.out [38, 97, 109, 112, 59]; rw [hent, ← HJ.out] at h; rw [h]; rfl)
        have O1 := Lib.hid (show Lib.occAt t.data.toList [38, 108, 116, 59] j = false by have h := HO.out [38, 108, 116, 59]; rw [hent, ← HJ.out] at h; rw [h]; rfl)
        have O2 := Lib.hid (show Lib.occAt t.data.toList [38, 103, 116, 59] j = true by have h := HO.out [38, 103, 116, 59]; rw [hent, ← HJ.out] at h; rw [h]; rfl)
        have HE := Lib.hid hent
        clear hent
        clear HO HF
        go_wp2_with (first | (go_at_call 16; ((with_reducible refine (hasAt_amp t j _ _ (by omega) (by omega) O0.out).mono ?_); rintro e w1 ⟨rfl, hd1⟩; replace hb := hb.drawn hd1)) | (go_at_call 16; ((with_reducible refine (hasAt_lt t j _ _ (by omega) (by omega) O1.out).mono ?_); rintro e w1 ⟨rfl, hd1⟩; replace hb := hb.drawn hd1)) | (go_at_call 16; ((with_reducible refine (hasAt_gt t j _ _ (by omega) (by omega) O2.out).mono ?_); rintro e w1 ⟨rfl, hd1⟩; replace hb := hb.drawn hd1)) | (at_builtin; refine buf_byte rfl (.tmp 46) (.tmp 47) 27 rfl w.heap.size 5 i0 Try.underlying27 HI.out.1 HI.out.2.1 HI.out.2.2.1 HI.out.2.2.2 _ m rfl w _ _ (62 : UInt8) rfl hb rfl (by omega) ?_; intro v' w' hb'; clear hb))
        exact ⟨⟨k + 1, j + 4, _, by omega, by go_num, hb', by rw [HM.out]; exact take_next l k hlt _ hb62, len_next _ l k hlt j _ HJ.out (by rw [HE.out]; rfl)⟩, by simp [intOf]; omega⟩
      by_cases hb34 : q = true ∧ l[k] = 34
      · obtain ⟨rfl, hbx⟩ := hb34
        have hent : ent true l[k] = [38, 113, 117, 111, 116, 59] := by rw [hbx]; rfl
        obtain ⟨hjt, hc⟩ := HF.out _ _ hent
        have hcn : ((t[j].toNat : Int) != 38) = false := by rw [hc]; rfl
        clear hc
        have O0 := Lib.hid (show Lib.occAt t.data.toList [38, 97, 109, 112, 59] j = false by have h := HO.out [38, 97, 109, 112, 59]; rw [hent, ← HJ.out] at h; rw [h]; rfl)
        have O1 := Lib.hid (show Lib.occAt t.data.toList [38, 108, 116, 59] j = false by have h := HO.out [38, 108, 116, 59]; rw [hent, ← HJ.out] at h; rw [h]; rfl)
        have O2 := Lib.hid (show Lib.occAt t.data.toList [38, 103, 116, 59] j = false by have h := HO.out [38, 103, 116, 59]; rw [hent, ← HJ.out] at h; rw [h]; rfl)
        have O3 := Lib.hid (show Lib.occAt t.data.toList [38, 113, 117, 111, 116, 59] j = true by have h := HO.out [38, 113, 117, 111, 116, 59]; rw [hent, ← HJ.out] at h; rw [h]; rfl)
        have HE := Lib.hid hent
        clear hent
        clear HO HF
        go_wp2_with (first | (go_at_call 16; ((with_reducible refine (hasAt_amp t j _ _ (by omega) (by omega) O0.out).mono ?_); rintro e w1 ⟨rfl, hd1⟩; replace hb := hb.drawn hd1)) | (go_at_call 16; ((with_reducible refine (hasAt_lt t j _ _ (by omega) (by omega) O1.out).mono ?_); rintro e w1 ⟨rfl, hd1⟩; replace hb := hb.drawn hd1)) | (go_at_call 16; ((with_reducible refine (hasAt_gt t j _ _ (by omega) (by omega) O2.out).mono ?_); rintro e w1 ⟨rfl, hd1⟩; replace hb := hb.drawn hd1)) | (go_at_call 16; ((with_reducible refine (hasAt_quot t j _ _ (by omega) (by omega) O3.out).mono ?_); rintro e w1 ⟨rfl, hd1⟩; replace hb := hb.drawn hd1)) | (at_builtin; refine buf_byte rfl (.tmp 57) (.tmp 58) 27 rfl w.heap.size 5 i0 Try.underlying27 HI.out.1 HI.out.2.1 HI.out.2.2.1 HI.out.2.2.2 _ m rfl w _ _ (34 : UInt8) rfl hb rfl (by omega) ?_; intro v' w' hb'; clear hb))
        exact ⟨⟨k + 1, j + 6, _, by omega, by go_num, hb', by rw [HM.out]; exact take_next l k hlt _ hbx, len_next _ l k hlt j _ HJ.out (by rw [HE.out]; rfl)⟩, by simp [intOf]; omega⟩
      by_cases hb39 : q = true ∧ l[k] = 39
      · obtain ⟨rfl, hbx⟩ := hb39
        have hent : ent true l[k] = [38, 97, 112, 111, 115, 59] := by rw [hbx]; rfl
        obtain ⟨hjt, hc⟩ := HF.out _ _ hent
        have hcn : ((t[j].toNat : Int) != 38) = false := by rw [hc]; rfl
        clear hc
        have O0 := Lib.hid (show Lib.occAt t.data.toList [38, 97, 109, 112, 59] j = false by have h := HO.out [38, 97, 109, 112, 59]; rw [hent, ← HJ.out] at h; rw [h]; rfl)
        have O1 := Lib.hid (show Lib.occAt t.data.toList [38, 108, 116, 59] j = false by have h := HO.out [38, 108, 116, 59]; rw [hent, ← HJ.out] at h; rw [h]; rfl)
        have O2 := Lib.hid (show Lib.occAt t.data.toList [38, 103, 116, 59] j = false by have h := HO.out [38, 103, 116, 59]; rw [hent, ← HJ.out] at h; rw [h]; rfl)
        have O3 := Lib.hid (show Lib.occAt t.data.toList [38, 113, 117, 111, 116, 59] j = false by have h := HO.out [38, 113, 117, 111, 116, 59]; rw [hent, ← HJ.out] at h; rw [h]; rfl)
        have O4 := Lib.hid (show Lib.occAt t.data.toList [38, 97, 112, 111, 115, 59] j = true by have h := HO.out [38, 97, 112, 111, 115, 59]; rw [hent, ← HJ.out] at h; rw [h]; rfl)
        have HE := Lib.hid hent
        clear hent
        clear HO HF
        go_wp2_with (first | (go_at_call 16; ((with_reducible refine (hasAt_amp t j _ _ (by omega) (by omega) O0.out).mono ?_); rintro e w1 ⟨rfl, hd1⟩; replace hb := hb.drawn hd1)) | (go_at_call 16; ((with_reducible refine (hasAt_lt t j _ _ (by omega) (by omega) O1.out).mono ?_); rintro e w1 ⟨rfl, hd1⟩; replace hb := hb.drawn hd1)) | (go_at_call 16; ((with_reducible refine (hasAt_gt t j _ _ (by omega) (by omega) O2.out).mono ?_); rintro e w1 ⟨rfl, hd1⟩; replace hb := hb.drawn hd1)) | (go_at_call 16; ((with_reducible refine (hasAt_quot t j _ _ (by omega) (by omega) O3.out).mono ?_); rintro e w1 ⟨rfl, hd1⟩; replace hb := hb.drawn hd1)) | (go_at_call 16; ((with_reducible refine (hasAt_apos t j _ _ (by omega) (by omega) O4.out).mono ?_); rintro e w1 ⟨rfl, hd1⟩; replace hb := hb.drawn hd1)) | (at_builtin; refine buf_byte rfl (.tmp 68) (.tmp 69) 27 rfl w.heap.size 5 i0 Try.underlying27 HI.out.1 HI.out.2.1 HI.out.2.2.1 HI.out.2.2.2 _ m rfl w _ _ (39 : UInt8) rfl hb rfl (by omega) ?_; intro v' w' hb'; clear hb))
        exact ⟨⟨k + 1, j + 6, _, by omega, by go_num, hb', by rw [HM.out]; exact take_next l k hlt _ hbx, len_next _ l k hlt j _ HJ.out (by rw [HE.out]; rfl)⟩, by simp [intOf]; omega⟩
      have hent : ent q l[k] = [l[k]] := ent_other q l[k] hb38 hb60 hb62 hb34 hb39
      obtain ⟨hjt, hc⟩ := HF.out _ _ hent
      have hcn : ((t[j].toNat : Int) != 38) = true := by rw [hc]; exact ne38 _ hb38
      have HC := Lib.hid hc
      have HE := Lib.hid hent
      clear hent hc HO HF hb38 hb60 hb62 hb34 hb39
      go_wp2_with (at_builtin; refine buf_byte rfl (.tmp 21) (.tmp 23) 27 rfl w.heap.size 5 i0 Try.underlying27 HI.out.1 HI.out.2.1 HI.out.2.2.1 HI.out.2.2.2 _ m rfl w _ _ t[j] rfl hb rfl (by omega) ?_; intro v' w' hb'; clear hb)
      exact ⟨⟨k + 1, j + 1, _, by omega, by go_num, hb', by rw [HM.out]; exact take_next l k hlt _ HC.out.symm, len_next _ l k hlt j _ HJ.out (by rw [HE.out]; rfl)⟩, by simp [intOf]; omega⟩
    · have hkl : l.take k = l := List.take_of_length_le (by omega)
      have hjt : t.size = j := by rw [Lib.size_eq, HT.out, HJ.out, hkl]
      have hfin : m = l := by rw [HM.out, hkl]
      subst hfin
      have hjt' : ¬ (j : Int) < t.size := by omega
      have HJT := Lib.hid hjt
      clear hjt hkl
      have hcv := hb.convert (P := Try.prog) 27 9 Try.underlying27 Try.underlying5 Try.underlying9
      go_wp2
      go_ret2
      exact ⟨rfl, hb.below⟩

end Go.Proofs.Ytgaglcalpcngbaa
