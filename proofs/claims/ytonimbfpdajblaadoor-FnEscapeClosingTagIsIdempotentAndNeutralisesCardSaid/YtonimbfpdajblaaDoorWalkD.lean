/-
  The walk of the law that escaping twice is escaping once; conditions: what the listed tables hold.
-/
import Derived.Test.YtonimbfpdajblaaDoorWalkC
namespace Go.Proofs.YtonimbfpdajblaaDoor
open Go.RowKit

theorem hasBs (s : ByteArray) (w : World) (hs : s.size ≤ 1099511627776) (b : Bool) (hb : memB s.data.toList 92 = b) : Calls Tryd.prog 10 #[.string s, .int .u8 92] w fun e w' => e = .returned (.bool b) ∧ w = w' := by
  rw [← hb]
  exact hasByte_any s 92 w hs

theorem own_get (s : ByteArray) (k : Nat) (h : k + 2 < s.size) : own (s.data.toList.drop k) = (decide (s[k] = 60 ∧ s[k + 1] = 92 ∧ s[k + 2] = 47) || own (s.data.toList.drop (k + 1))) := by
  rw [drop_get s k (by omega), drop_get s (k + 1) (by omega), drop_get s (k + 2) (by omega), own]
  simp
theorem own_no (s : ByteArray) (k : Nat) (h : k + 2 < s.size) (hc : s[k] ≠ 60 ∨ s[k + 1] ≠ 92 ∨ s[k + 2] ≠ 47) (ho : own (s.data.toList.drop (k + 1)) = false) : own (s.data.toList.drop k) = false := by
  rw [own_get s k h, ho, Bool.or_false, decide_eq_false_iff_not]
  rintro ⟨h1, h2, h3⟩
  rcases hc with hc | hc | hc
  · exact hc h1
  · exact hc h2
  · exact hc h3
theorem own_two : ∀ l : List UInt8, l.length ≤ 2 → own l = false
  | [], _ => rfl
  | [_], _ => by simp [own]
  | [_, _], _ => by simp [own]
  | _ :: _ :: _ :: _, h => by simp at h
theorem own_short (s : ByteArray) (k : Nat) (h : ¬ k + 2 < s.size) : own (s.data.toList.drop k) = false := own_two _ (by rw [List.length_drop, ← Lib.size_eq]; omega)

def pv (o : ByteArray) : Nat → Option UInt8
  | 0 => none
  | j + 1 => o.data.toList[j]?
theorem pv_succ (o : ByteArray) (k : Nat) (h : k < o.size) : pv o (k + 1) = some o[k] := Lib.data_getElem? o k h
theorem pv_at (o : ByteArray) (j : Nat) (h : j < o.size) {c : UInt8} (e : pv o (j + 1) = some c) : o[j] = c := by
  rw [pv_succ o j h] at e
  injection e
theorem pv_is (o : ByteArray) (j : Nat) (h : j < o.size) {c : UInt8} (e : o[j] = c) : pv o (j + 1) = some c := by rw [pv_succ o j h, e]
theorem head_at (o : ByteArray) (k : Nat) (h : k < o.size) {c : UInt8} (e : (o.data.toList.drop k).head? = some c) : o[k] = c := by
  rw [drop_get o k h] at e
  injection e
theorem head_is (o : ByteArray) (k : Nat) (h : k < o.size) {c : UInt8} (e : o[k] = c) : (o.data.toList.drop k).head? = some c := by
  rw [drop_get o k h, ← e]
  rfl
theorem head_end (o : ByteArray) (k : Nat) (h : ¬ k < o.size) {c : UInt8} (e : (o.data.toList.drop k).head? = some c) : False := by
  rw [List.drop_eq_nil_of_le (by rw [← Lib.size_eq]; omega)] at e
  cases e
theorem un_keep (o : ByteArray) (k : Nat) (h : k < o.size) (m E : List UInt8) (hm : m ++ un (pv o k) (o.data.toList.drop k) = E) (hc : ¬ (o[k] = 92 ∧ pv o k = some 60 ∧ (o.data.toList.drop (k + 1)).head? = some 47)) : (m ++ [o[k]]) ++ un (pv o (k + 1)) (o.data.toList.drop (k + 1)) = E := by
  rw [drop_get o k h, un, if_neg hc] at hm
  rw [← hm, pv_succ o k h, List.append_assoc]
  rfl
theorem un_skip (o : ByteArray) (k : Nat) (h : k < o.size) (m E : List UInt8) (hm : m ++ un (pv o k) (o.data.toList.drop k) = E) (hc : o[k] = 92 ∧ pv o k = some 60 ∧ (o.data.toList.drop (k + 1)).head? = some 47) : m ++ un (pv o (k + 1)) (o.data.toList.drop (k + 1)) = E := by
  rw [drop_get o k h, un, if_pos hc] at hm
  rw [← hm, pv_succ o k h]
theorem esc_long (tag : List UInt8) : ∀ t : List UInt8, t.length < tag.length → esc tag t = t
  | [], _ => rfl
  | c :: r, h => by
    have hr : r.length < tag.length := by rw [List.length_cons] at h; omega
    rw [esc_cons, esc_long tag r hr]
    have : hit tag c r = false := by unfold hit; rw [foldPre_short r tag hr, Bool.and_false]
    rw [this, if_neg (by decide)]
theorem un_self (t : List UInt8) (h : own t = false) : un none t = t := by
  have := un_esc (t ++ [0]) t none h (fun h => by cases h.1)
  rwa [esc_long (t ++ [0]) t (by simp)] at this
theorem miss_at {tag : List UInt8} {o : ByteArray} (k : Nat) (h : k < o.size) (hn : k + 1 < o.size) (he : esc tag o.data.toList = o.data.toList) (h60 : ((o[k].toNat : Int) == 60) = true) (h47 : ((o[k + 1].toNat : Int) == 47) = true) : foldPre (o.data.toList.drop (k + 1)) tag = false := by
  have h1 := esc_fix tag o.data.toList he k o[k] (Lib.data_getElem? o k h)
  rw [hit_fold hn h60 h47 _ rfl] at h1
  exact h1

def OwnRel (s : ByteArray) (k : Nat) (v : Value) : Prop := ∃ b, v = .bool b ∧ (b = false → own (s.data.toList.drop k) = false → own s.data.toList = false)
def Once (s tag o : ByteArray) : Prop := ∀ w, Tabs w → Calls Tryd.prog 7 #[.string s, .string tag] w fun e w' => e = .returned (.string o) ∧ Below w.heap.size w w'

set_option maxHeartbeats 4000000 in
set_option maxRecDepth 10000 in
theorem rest_full (s tag o : ByteArray) (w : World) (hT : Tabs w) (hsum : s.size + tag.size ≤ 1048576) (h1 : s.size ≤ 65536) (h2 : tag.size ≤ 4096) (h3 : 1 ≤ tag.size) (hA : Ascii tag) (h92 : memB tag.data.toList 92 = false) (hF1 : Once s tag o) (hF2 : Once o tag o) (ho : o.size ≤ 131072)
    (hun : own s.data.toList = false → un none o.data.toList = s.data.toList) (hesc : esc tag.data.toList o.data.toList = o.data.toList) :
    Calls Tryd.prog 4 #[.string s, .string tag] w fun e w' => e = .returned (.bool true) ∧ Below w.heap.size w w' := by
  obtain ⟨i0, hi0, hz0, hz1, hz2⟩ := info_parts infoU8
  have HI := Lib.hid (And.intro hi0 (And.intro hz0 (And.intro hz1 hz2)))
  clear hi0 hz0 hz1 hz2
  have HT := Lib.hid hT
  have HF := Lib.hid (And.intro (And.intro hF1 hF2) hun)
  have HE := Lib.hid hesc
  have HBS := Lib.hid h92
  have HA := Lib.hid hA
  clear hT hF1 hF2 hun hesc h92 hA
  have hp0 : 0 < tag.size := h3
  have hd1 : decide (0 < tag.size) = true := decide_eq_true h3
  have hd0 : decide ((0 : Int) < (tag.size : Int)) = true := by rw [decide_eq_true_iff]; omega
  go_enter Tryd.func4, Tryd.ntmps4
  go_wp2_with (go_at_call 9; refine (zz9_yes s tag _ hsum).mono ?_; rintro e w' ⟨rfl, rfl⟩)
  refine (ascii_any tag _ (by omega)).mono ?_
  rintro e w' ⟨⟨b, rfl, hA⟩, rfl⟩
  cases b
  · clear hA
    go_wp2_with fail
    go_ret
    exact ⟨rfl, Below.refl _ _⟩
  clear hA
  go_wp2_with fail
  refine (hasBs tag _ (by omega) false HBS.out).mono ?_
  rintro e w' ⟨rfl, rfl⟩
  go_wp2_with fail
  refine (HF.out.1.1 _ HT.out).mono ?_
  rintro e wA ⟨rfl, hbA⟩
  go_wp2_with fail
  refine (HF.out.1.2 _ (HT.out.up hbA)).mono ?_
  rintro e wB ⟨rfl, hbB⟩
  have hb2 := hbA.trans (hbB.mono hbA.size)
  have HB2 := Lib.hid hb2
  clear hbA hbB hb2
  go_wp2_with fail
  go_loopw [7] (fun i wr => ∃ (k n : Nat), k ≤ o.size ∧ i = .int .i64 k ∧ wB.drewN n = wr) (fun i _ => o.size - (intOf i).toNat)
  case atStart => exact ⟨0, 0, Nat.zero_le _, rfl, rfl⟩
  case round =>
    obtain ⟨k, n, hk, rfl, rfl⟩ := hrel
    by_cases hlt : k < o.size
    · cases h60 : ((o[k].toNat : Int) == 60)
      · go_wp2_with fail
        exact ⟨⟨k + 1, n, by omega, by go_num, rfl⟩, by simp [intOf]; omega⟩
      · by_cases hn : k + 1 < o.size
        · have b0 : (0 : Int) ≤ (k : Int) + 1 := by omega
          have b1 : (k : Int) + 1 < o.size := by omega
          cases h47 : ((o[k + 1].toNat : Int) == 47)
          · go_wp2_with fail
            exact ⟨⟨k + 1, n, by omega, by go_num, rfl⟩, by simp [intOf]; omega⟩
          · go_wp2_with fail
            refine (foldAt_val o tag (k + 1) false _ (by omega) (by omega) (by omega) (miss_at k hlt hn HE.out h60 h47)).mono ?_
            rintro e w' ⟨rfl, nd, rfl⟩
            go_wp2_with fail
            exact ⟨⟨k + 1, n + nd, by omega, by go_num, by simp⟩, by simp [intOf]; omega⟩
        · have b1 : ¬ (k : Int) + 1 < o.size := by omega
          go_wp2_with fail
          exact ⟨⟨k + 1, n, by omega, by go_num, rfl⟩, by simp [intOf]; omega⟩
    · go_wp2_with fail
      go_loopw [8, 9] (fun v i wr => ∃ k : Nat, k ≤ s.size ∧ i = .int .i64 k ∧ OwnRel s k v ∧ wB.drewN n = wr) (fun _ i _ => s.size - (intOf i).toNat)
      case atStart => exact ⟨0, Nat.zero_le _, rfl, ⟨false, rfl, fun _ h => h⟩, rfl⟩
      case round =>
        obtain ⟨k, hk, rfl, ⟨b, rfl, hown⟩, rfl⟩ := hrel
        have HO := Lib.hid hown
        clear hown
        by_cases hlt : k + 2 < s.size
        · have b0 : (0 : Int) ≤ (k : Int) + 1 := by omega
          have b1 : (k : Int) + 1 < s.size := by omega
          have b2 : (0 : Int) ≤ (k : Int) + 2 := by omega
          have b3 : (k : Int) + 2 < s.size := by omega
          have hl0 : k < s.size := by omega
          have hl1 : k + 1 < s.size := by omega
          cases h60 : ((s[k].toNat : Int) == 60)
          · go_wp2_with fail
            exact ⟨⟨k + 1, by omega, by go_num, ⟨b, rfl, fun hb h => HO.out hb (own_no s k hlt (.inl (byte_ne (b := 60) h60)) h)⟩, trivial⟩, by simp [intOf]; omega⟩
          · cases h92 : ((s[k + 1].toNat : Int) == 92)
            · go_wp2_with fail
              exact ⟨⟨k + 1, by omega, by go_num, ⟨b, rfl, fun hb h => HO.out hb (own_no s k hlt (.inr (.inl (byte_ne (b := 92) h92))) h)⟩, trivial⟩, by simp [intOf]; omega⟩
            · cases h47 : ((s[k + 2].toNat : Int) == 47)
              · go_wp2_with fail
                exact ⟨⟨k + 1, by omega, by go_num, ⟨b, rfl, fun hb h => HO.out hb (own_no s k hlt (.inr (.inr (byte_ne (b := 47) h47))) h)⟩, trivial⟩, by simp [intOf]; omega⟩
              · go_wp2_with fail
                exact ⟨⟨k + 1, by omega, by go_num, ⟨true, rfl, fun hb _ => by cases hb⟩, trivial⟩, by simp [intOf]; omega⟩
        · have b1 : ¬ (k : Int) + 2 < s.size := by omega
          cases b
          · have hown : own s.data.toList = false := HO.out rfl (own_short s k hlt)
            have hfin := HF.out.2 hown
            have HFIN := Lib.hid hfin
            clear hfin hown
            go_wp2_with fail
            have HB1 := Lib.hid (show Below w.heap.size w (wB.drewN n) from (HB2.out.trans ⟨rfl, rfl, rfl, Nat.le_refl _, fun _ _ => rfl⟩))
            generalize wB.drewN n = w1 at *
            go_loopw [10, 11] (fun v i wr => ∃ (k : Nat) (m : List UInt8), k ≤ o.size ∧ i = .int .i64 k ∧ Buf w1.heap.size 5 v m w1 wr ∧ m.length ≤ k ∧ m ++ un (pv o k) (o.data.toList.drop k) = s.data.toList) (fun _ i _ => o.size - (intOf i).toNat)
            case atStart => exact ⟨0, [], Nat.zero_le _, rfl, Buf.nil _ _, Nat.le_refl _, HFIN.out⟩
            case round =>
              obtain ⟨k, m, hk, rfl, hb, hml, hm⟩ := hrel
              have HM := Lib.hid hm
              clear hm
              by_cases hlt : k < o.size
              · cases h92 : ((o[k].toNat : Int) == 92)
                · go_wp2_with (at_builtin; refine buf_byte rfl (.tmp 134) (.tmp 138) 27 rfl w1.heap.size 5 i0 Tryd.underlying27 HI.out.1 HI.out.2.1 HI.out.2.2.1 HI.out.2.2.2 _ m rfl w1 _ _ o[k] rfl hb rfl (by omega) ?_; intro v' w' hb'; clear hb)
                  exact ⟨⟨k + 1, _, by omega, by go_num, hb', by simp only [List.length_append, List.length_cons, List.length_nil]; omega, un_keep o k hlt m _ HM.out (fun h => byte_ne (b := 92) h92 h.1)⟩, by simp [intOf]; omega⟩
                · cases k with
                  | zero =>
                    go_wp2_with (at_builtin; refine buf_byte rfl (.tmp 134) (.tmp 138) 27 rfl w1.heap.size 5 i0 Tryd.underlying27 HI.out.1 HI.out.2.1 HI.out.2.2.1 HI.out.2.2.2 _ m rfl w1 _ _ o[0] rfl hb rfl (by omega) ?_; intro v' w' hb'; clear hb)
                    exact ⟨⟨0 + 1, _, by omega, by go_num, hb', by simp only [List.length_append, List.length_cons, List.length_nil]; omega, un_keep o 0 hlt m _ HM.out (fun h => by cases h.2.1)⟩, by simp [intOf]; omega⟩
                  | succ j =>
                    have hj : j < o.size := by omega
                    have q0 : ((j + 1 : Nat) : Int) - 1 = (j : Int) := by omega
                    have q1 : (0 : Int) < ((j + 1 : Nat) : Int) := by omega
                    cases h60 : ((o[j].toNat : Int) == 60)
                    · go_wp2_with (at_builtin; refine buf_byte rfl (.tmp 134) (.tmp 138) 27 rfl w1.heap.size 5 i0 Tryd.underlying27 HI.out.1 HI.out.2.1 HI.out.2.2.1 HI.out.2.2.2 _ m rfl w1 _ _ o[j + 1] rfl hb rfl (by omega) ?_; intro v' w' hb'; clear hb)
                      exact ⟨⟨j + 1 + 1, _, by omega, by go_num, hb', by simp only [List.length_append, List.length_cons, List.length_nil]; omega, un_keep o (j + 1) hlt m _ HM.out (fun h => byte_ne (b := 60) h60 (pv_at o j hj h.2.1))⟩, by simp [intOf]; omega⟩
                    · by_cases hn : j + 1 + 1 < o.size
                      · have c0 : (0 : Int) ≤ ((j + 1 : Nat) : Int) + 1 := by omega
                        have c1 : ((j + 1 : Nat) : Int) + 1 < o.size := by omega
                        cases h47 : ((o[j + 1 + 1].toNat : Int) == 47)
                        · go_wp2_with (at_builtin; refine buf_byte rfl (.tmp 134) (.tmp 138) 27 rfl w1.heap.size 5 i0 Tryd.underlying27 HI.out.1 HI.out.2.1 HI.out.2.2.1 HI.out.2.2.2 _ m rfl w1 _ _ o[j + 1] rfl hb rfl (by omega) ?_; intro v' w' hb'; clear hb)
                          exact ⟨⟨j + 1 + 1, _, by omega, by go_num, hb', by simp only [List.length_append, List.length_cons, List.length_nil]; omega, un_keep o (j + 1) hlt m _ HM.out (fun h => byte_ne (b := 47) h47 (head_at o (j + 1 + 1) hn h.2.2))⟩, by simp [intOf]; omega⟩
                        · go_wp2_with fail
                          exact ⟨⟨j + 1 + 1, m, by omega, by go_num, hb, by omega, un_skip o (j + 1) hlt m _ HM.out (⟨byte_eq (b := 92) h92, pv_is o j hj (byte_eq (b := 60) h60), head_is o (j + 1 + 1) hn (byte_eq (b := 47) h47)⟩)⟩, by simp [intOf]; omega⟩
                      · have c1 : ¬ ((j + 1 : Nat) : Int) + 1 < o.size := by omega
                        go_wp2_with (at_builtin; refine buf_byte rfl (.tmp 134) (.tmp 138) 27 rfl w1.heap.size 5 i0 Tryd.underlying27 HI.out.1 HI.out.2.1 HI.out.2.2.1 HI.out.2.2.2 _ m rfl w1 _ _ o[j + 1] rfl hb rfl (by omega) ?_; intro v' w' hb'; clear hb)
                        exact ⟨⟨j + 1 + 1, _, by omega, by go_num, hb', by simp only [List.length_append, List.length_cons, List.length_nil]; omega, un_keep o (j + 1) hlt m _ HM.out (fun h => head_end o (j + 1 + 1) hn h.2.2)⟩, by simp [intOf]; omega⟩
              · have hfin : m = s.data.toList := by
                  have := HM.out
                  rw [show o.data.toList.drop k = [] from List.drop_eq_nil_of_le (by rw [← Lib.size_eq]; omega)] at this
                  rw [← this]
                  simp [un]
                subst hfin
                have hcv := hb.convert (P := Tryd.prog) 27 9 Tryd.underlying27 Tryd.underlying5 Tryd.underlying9
                rw [S_L] at hcv
                go_wp2_with fail
                go_ret
                exact ⟨rfl, HB1.out.trans (hb.below.mono HB1.out.size)⟩
          · go_wp2_with fail
            go_ret
            exact ⟨rfl, (HB2.out.trans ⟨rfl, rfl, rfl, Nat.le_refl _, fun _ _ => rfl⟩)⟩


set_option maxHeartbeats 4000000 in
set_option maxRecDepth 10000 in
theorem rest_empty (s tag o : ByteArray) (w : World) (hT : Tabs w) (hsum : s.size + tag.size ≤ 1048576) (h1 : s.size ≤ 65536) (h3 : tag.size = 0) (h92 : memB tag.data.toList 92 = false) (hF1 : Once s tag o) (hF2 : Once o tag o) (ho : o.size ≤ 131072)
    (hun : own s.data.toList = false → un none o.data.toList = s.data.toList) :
    Calls Tryd.prog 4 #[.string s, .string tag] w fun e w' => e = .returned (.bool true) ∧ Below w.heap.size w w' := by
  obtain ⟨i0, hi0, hz0, hz1, hz2⟩ := info_parts infoU8
  have HI := Lib.hid (And.intro hi0 (And.intro hz0 (And.intro hz1 hz2)))
  clear hi0 hz0 hz1 hz2
  have HT := Lib.hid hT
  have HF := Lib.hid (And.intro (And.intro hF1 hF2) hun)
  have HBS := Lib.hid h92
  clear hT hF1 hF2 hun h92
  have hd0 : decide ((0 : Int) < (tag.size : Int)) = false := by rw [decide_eq_false_iff_not]; omega
  go_enter Tryd.func4, Tryd.ntmps4
  go_wp2_with (go_at_call 9; refine (zz9_yes s tag _ hsum).mono ?_; rintro e w' ⟨rfl, rfl⟩)
  refine (ascii_any tag _ (by omega)).mono ?_
  rintro e w' ⟨⟨b, rfl, hA⟩, rfl⟩
  clear hA
  cases b
  · go_wp2_with fail
    go_ret
    exact ⟨rfl, Below.refl _ _⟩
  go_wp2_with fail
  refine (hasBs tag _ (by omega) false HBS.out).mono ?_
  rintro e w' ⟨rfl, rfl⟩
  go_wp2_with fail
  refine (HF.out.1.1 _ HT.out).mono ?_
  rintro e wA ⟨rfl, hbA⟩
  go_wp2_with fail
  refine (HF.out.1.2 _ (HT.out.up hbA)).mono ?_
  rintro e wB ⟨rfl, hbB⟩
  have hb2 := hbA.trans (hbB.mono hbA.size)
  have HB2 := Lib.hid hb2
  clear hbA hbB hb2
  go_wp2_with fail
  go_loopw [8, 9] (fun v i wr => ∃ k : Nat, k ≤ s.size ∧ i = .int .i64 k ∧ OwnRel s k v ∧ wB = wr) (fun _ i _ => s.size - (intOf i).toNat)
  case atStart => exact ⟨0, Nat.zero_le _, rfl, ⟨false, rfl, fun _ h => h⟩, rfl⟩
  case round =>
    obtain ⟨k, hk, rfl, ⟨b, rfl, hown⟩, rfl⟩ := hrel
    have HO := Lib.hid hown
    clear hown
    by_cases hlt : k + 2 < s.size
    · have b0 : (0 : Int) ≤ (k : Int) + 1 := by omega
      have b1 : (k : Int) + 1 < s.size := by omega
      have b2 : (0 : Int) ≤ (k : Int) + 2 := by omega
      have b3 : (k : Int) + 2 < s.size := by omega
      have hl0 : k < s.size := by omega
      have hl1 : k + 1 < s.size := by omega
      cases h60 : ((s[k].toNat : Int) == 60)
      · go_wp2_with fail
        exact ⟨⟨k + 1, by omega, by go_num, ⟨b, rfl, fun hb h => HO.out hb (own_no s k hlt (.inl (byte_ne (b := 60) h60)) h)⟩, trivial⟩, by simp [intOf]; omega⟩
      · cases h92 : ((s[k + 1].toNat : Int) == 92)
        · go_wp2_with fail
          exact ⟨⟨k + 1, by omega, by go_num, ⟨b, rfl, fun hb h => HO.out hb (own_no s k hlt (.inr (.inl (byte_ne (b := 92) h92))) h)⟩, trivial⟩, by simp [intOf]; omega⟩
        · cases h47 : ((s[k + 2].toNat : Int) == 47)
          · go_wp2_with fail
            exact ⟨⟨k + 1, by omega, by go_num, ⟨b, rfl, fun hb h => HO.out hb (own_no s k hlt (.inr (.inr (byte_ne (b := 47) h47))) h)⟩, trivial⟩, by simp [intOf]; omega⟩
          · go_wp2_with fail
            exact ⟨⟨k + 1, by omega, by go_num, ⟨true, rfl, fun hb _ => by cases hb⟩, trivial⟩, by simp [intOf]; omega⟩
    · have b1 : ¬ (k : Int) + 2 < s.size := by omega
      cases b
      · have hown : own s.data.toList = false := HO.out rfl (own_short s k hlt)
        have hfin := HF.out.2 hown
        have HFIN := Lib.hid hfin
        clear hfin hown
        go_wp2_with fail
        have HB1 := Lib.hid (show Below w.heap.size w (wB) from HB2.out)
        go_loopw [10, 11] (fun v i wr => ∃ (k : Nat) (m : List UInt8), k ≤ o.size ∧ i = .int .i64 k ∧ Buf wB.heap.size 5 v m wB wr ∧ m.length ≤ k ∧ m ++ un (pv o k) (o.data.toList.drop k) = s.data.toList) (fun _ i _ => o.size - (intOf i).toNat)
        case atStart => exact ⟨0, [], Nat.zero_le _, rfl, Buf.nil _ _, Nat.le_refl _, HFIN.out⟩
        case round =>
          obtain ⟨k, m, hk, rfl, hb, hml, hm⟩ := hrel
          have HM := Lib.hid hm
          clear hm
          by_cases hlt : k < o.size
          · cases h92 : ((o[k].toNat : Int) == 92)
            · go_wp2_with (at_builtin; refine buf_byte rfl (.tmp 134) (.tmp 138) 27 rfl wB.heap.size 5 i0 Tryd.underlying27 HI.out.1 HI.out.2.1 HI.out.2.2.1 HI.out.2.2.2 _ m rfl wB _ _ o[k] rfl hb rfl (by omega) ?_; intro v' w' hb'; clear hb)
              exact ⟨⟨k + 1, _, by omega, by go_num, hb', by simp only [List.length_append, List.length_cons, List.length_nil]; omega, un_keep o k hlt m _ HM.out (fun h => byte_ne (b := 92) h92 h.1)⟩, by simp [intOf]; omega⟩
            · cases k with
              | zero =>
                go_wp2_with (at_builtin; refine buf_byte rfl (.tmp 134) (.tmp 138) 27 rfl wB.heap.size 5 i0 Tryd.underlying27 HI.out.1 HI.out.2.1 HI.out.2.2.1 HI.out.2.2.2 _ m rfl wB _ _ o[0] rfl hb rfl (by omega) ?_; intro v' w' hb'; clear hb)
                exact ⟨⟨0 + 1, _, by omega, by go_num, hb', by simp only [List.length_append, List.length_cons, List.length_nil]; omega, un_keep o 0 hlt m _ HM.out (fun h => by cases h.2.1)⟩, by simp [intOf]; omega⟩
              | succ j =>
                have hj : j < o.size := by omega
                have q0 : ((j + 1 : Nat) : Int) - 1 = (j : Int) := by omega
                have q1 : (0 : Int) < ((j + 1 : Nat) : Int) := by omega
                cases h60 : ((o[j].toNat : Int) == 60)
                · go_wp2_with (at_builtin; refine buf_byte rfl (.tmp 134) (.tmp 138) 27 rfl wB.heap.size 5 i0 Tryd.underlying27 HI.out.1 HI.out.2.1 HI.out.2.2.1 HI.out.2.2.2 _ m rfl wB _ _ o[j + 1] rfl hb rfl (by omega) ?_; intro v' w' hb'; clear hb)
                  exact ⟨⟨j + 1 + 1, _, by omega, by go_num, hb', by simp only [List.length_append, List.length_cons, List.length_nil]; omega, un_keep o (j + 1) hlt m _ HM.out (fun h => byte_ne (b := 60) h60 (pv_at o j hj h.2.1))⟩, by simp [intOf]; omega⟩
                · by_cases hn : j + 1 + 1 < o.size
                  · have c0 : (0 : Int) ≤ ((j + 1 : Nat) : Int) + 1 := by omega
                    have c1 : ((j + 1 : Nat) : Int) + 1 < o.size := by omega
                    cases h47 : ((o[j + 1 + 1].toNat : Int) == 47)
                    · go_wp2_with (at_builtin; refine buf_byte rfl (.tmp 134) (.tmp 138) 27 rfl wB.heap.size 5 i0 Tryd.underlying27 HI.out.1 HI.out.2.1 HI.out.2.2.1 HI.out.2.2.2 _ m rfl wB _ _ o[j + 1] rfl hb rfl (by omega) ?_; intro v' w' hb'; clear hb)
                      exact ⟨⟨j + 1 + 1, _, by omega, by go_num, hb', by simp only [List.length_append, List.length_cons, List.length_nil]; omega, un_keep o (j + 1) hlt m _ HM.out (fun h => byte_ne (b := 47) h47 (head_at o (j + 1 + 1) hn h.2.2))⟩, by simp [intOf]; omega⟩
                    · go_wp2_with fail
                      exact ⟨⟨j + 1 + 1, m, by omega, by go_num, hb, by omega, un_skip o (j + 1) hlt m _ HM.out (⟨byte_eq (b := 92) h92, pv_is o j hj (byte_eq (b := 60) h60), head_is o (j + 1 + 1) hn (byte_eq (b := 47) h47)⟩)⟩, by simp [intOf]; omega⟩
                  · have c1 : ¬ ((j + 1 : Nat) : Int) + 1 < o.size := by omega
                    go_wp2_with (at_builtin; refine buf_byte rfl (.tmp 134) (.tmp 138) 27 rfl wB.heap.size 5 i0 Tryd.underlying27 HI.out.1 HI.out.2.1 HI.out.2.2.1 HI.out.2.2.2 _ m rfl wB _ _ o[j + 1] rfl hb rfl (by omega) ?_; intro v' w' hb'; clear hb)
                    exact ⟨⟨j + 1 + 1, _, by omega, by go_num, hb', by simp only [List.length_append, List.length_cons, List.length_nil]; omega, un_keep o (j + 1) hlt m _ HM.out (fun h => head_end o (j + 1 + 1) hn h.2.2)⟩, by simp [intOf]; omega⟩
          · have hfin : m = s.data.toList := by
              have := HM.out
              rw [show o.data.toList.drop k = [] from List.drop_eq_nil_of_le (by rw [← Lib.size_eq]; omega)] at this
              rw [← this]
              simp [un]
            subst hfin
            have hcv := hb.convert (P := Tryd.prog) 27 9 Tryd.underlying27 Tryd.underlying5 Tryd.underlying9
            rw [S_L] at hcv
            go_wp2_with fail
            go_ret
            exact ⟨rfl, HB1.out.trans (hb.below.mono HB1.out.size)⟩
      · go_wp2_with fail
        go_ret
        exact ⟨rfl, HB2.out⟩


theorem once_full (s tag : ByteArray) (hs : s.size ≤ 4194304) (h1 : 1 ≤ tag.size) (h2 : tag.size ≤ 65536) (ht : Ascii tag) : Once s tag (S (esc tag.data.toList s.data.toList)) := fun w hT => esc_any s tag w hT hs h1 h2 ht
theorem once_empty (s tag : ByteArray) (ht : tag.toList.isEmpty = true) : Once s tag s := fun w _ => (esc_empty s tag w ht).mono fun _ _ ⟨he, hw⟩ => ⟨he, hw ▸ Below.refl _ _⟩
theorem memB_not {l : List UInt8} {c : UInt8} (h : memB l c = false) : c ∉ l := of_decide_eq_false h

set_option maxHeartbeats 800000 in
theorem fnEscapeClosingTagIsIdempotentAndNeutralises_walk (s tag : ByteArray) (w : World) (_hs : s.size ≤ maxLen) (_ht : tag.size ≤ maxLen) (hT : Tabs w) :
    Calls Tryd.prog 4 #[.string s, .string tag] w fun e w' => e = .returned (.bool true) ∧ Below w.heap.size w w' := by
  unfold maxLen at _hs _ht
  by_cases hsum : s.size + tag.size ≤ 1048576
  · by_cases h1 : s.size ≤ 65536
    · by_cases h2 : tag.size ≤ 4096
      · by_cases hA : Ascii tag
        · cases h92 : memB tag.data.toList 92
          · cases he : tag.toList.isEmpty
            · have h3 := tag_size he
              have hl := esc_length tag.data.toList s.data.toList
              rw [← Lib.size_eq] at hl
              have h5 := esc_twice tag.data.toList (memB_not h92) s.data.toList
              have h4 := once_full (S (esc tag.data.toList s.data.toList)) tag (by rw [S_size]; omega) h3 (by omega) hA
              rw [S_data, h5] at h4
              exact rest_full s tag _ w hT hsum h1 h2 h3 hA h92 (once_full s tag (by omega) h3 (by omega) hA) h4 (by rw [S_size]; omega)
                (fun ho => by rw [S_data]; exact un_esc tag.data.toList s.data.toList none ho (fun h => by cases h.1)) (by rw [S_data]; exact h5)
            · have h3 : tag.size = 0 := by
                rw [Lib.size_eq]
                rw [Lib.toList_data, List.isEmpty_iff] at he
                rw [he]
                rfl
              exact rest_empty s tag s w hT hsum h1 h3 h92 (once_empty s tag he) (once_empty s tag he) (by omega) (fun ho => un_self _ ho)
          · clear hT
            have HBS := Lib.hid h92
            clear h92
            go_enter Tryd.func4, Tryd.ntmps4
            go_wp2_with (go_at_call 9; refine (zz9_yes s tag _ hsum).mono ?_; rintro e w' ⟨rfl, rfl⟩)
            refine (ascii_any tag _ (by omega)).mono ?_
            rintro e w' ⟨⟨b, rfl, hA'⟩, rfl⟩
            clear hA'
            cases b
            · go_wp2_with fail
              go_ret
              exact ⟨rfl, Below.refl _ _⟩
            · go_wp2_with fail
              refine (hasBs tag _ (by omega) true HBS.out).mono ?_
              rintro e w' ⟨rfl, rfl⟩
              go_wp2_with fail
              go_ret
              exact ⟨rfl, Below.refl _ _⟩
        · clear hT
          have HNA := Lib.hid hA
          clear hA
          go_enter Tryd.func4, Tryd.ntmps4
          go_wp2_with (go_at_call 9; refine (zz9_yes s tag _ hsum).mono ?_; rintro e w' ⟨rfl, rfl⟩)
          refine (ascii_any tag _ (by omega)).mono ?_
          rintro e w' ⟨⟨b, rfl, hA'⟩, rfl⟩
          cases b
          · clear hA'
            go_wp2_with fail
            go_ret
            exact ⟨rfl, Below.refl _ _⟩
          · exact absurd (hA' rfl) HNA.out
      · go_enter Tryd.func4, Tryd.ntmps4
        go_wp2_with (go_at_call 9; refine (zz9_yes s tag _ hsum).mono ?_; rintro e w' ⟨rfl, rfl⟩)
        go_ret
        exact ⟨rfl, Below.refl _ _⟩
    · go_enter Tryd.func4, Tryd.ntmps4
      go_wp2_with (go_at_call 9; refine (zz9_yes s tag _ hsum).mono ?_; rintro e w' ⟨rfl, rfl⟩)
      go_ret
      exact ⟨rfl, Below.refl _ _⟩
  · go_enter Tryd.func4, Tryd.ntmps4
    go_wp2_with (go_at_call 9; refine (zz9_no s tag _ (by omega)).mono ?_; rintro e w' ⟨rfl, rfl⟩)
    go_ret
    exact ⟨rfl, Below.refl _ _⟩

end Go.Proofs.YtonimbfpdajblaaDoor
