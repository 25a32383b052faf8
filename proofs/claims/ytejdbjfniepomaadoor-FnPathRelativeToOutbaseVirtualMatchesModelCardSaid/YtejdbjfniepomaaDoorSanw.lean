/-
  The contract of sanitizeFilePathForVirtualModulePath: the sanitizer of bytes; conditions: at most 4194304 bytes.
-/
import Derived.Test.YtejdbjfniepomaaDoorBldk
import Derived.Test.YtejdbjfniepomaaDoorSanB
import Derived.Test.YtejdbjfniepomaaDoorRune
import Derived.Deep.LoopGhost
namespace Go.Proofs.YtejdbjfniepomaaDoor
open Go.RowKit

theorem bad_cases {r : Int} (h : badR r = true) : r < 32 ∨ r = 60 ∨ r = 62 ∨ r = 58 ∨ r = 34 ∨ r = 124 ∨ r = 63 ∨ r = 42 := by
  unfold badR at h
  simp only [Bool.or_eq_true, decide_eq_true_eq, beq_iff_eq] at h
  omega
theorem good_cases {r : Int} (h : badR r = false) : 32 ≤ r ∧ r ≠ 60 ∧ r ≠ 62 ∧ r ≠ 58 ∧ r ≠ 34 ∧ r ≠ 124 ∧ r ≠ 63 ∧ r ≠ 42 := by
  unfold badR at h
  simp only [Bool.or_eq_false_iff, decide_eq_false_iff_not, beq_eq_false_iff_ne] at h
  omega

def ansOf (st g : Bool) (rs : List Int) : List UInt8 := (goS st g rs).flatMap Lib.encodeRune

/-- The loop's state: what is written, whether a gap is due, where the iterator stands. -/
def SanRel (s : ByteArray) (w : World) (gk : Nat) (s4 : Value) (wx : World) : Prop :=
  ∃ (g : Bool) (pos : Nat) (l : List UInt8), s4 = .bool g ∧ Bld w.heap.size w.heap.size l wx ∧ wx.heap[w.heap.size + 1]? = some (.stringIter s pos) ∧ Below w.heap.size w wx ∧
    s.size ≤ pos + gk ∧ pos ≤ s.size ∧ l.length ≤ 5 * pos ∧ l ++ ansOf (decide (l ≠ [])) g (runesL (s.data.toList.drop pos)) = ansOf false false (runesL s.data.toList)

theorem enc_len (r : Int) : 1 ≤ (Lib.encodeRune r).length ∧ (Lib.encodeRune r).length ≤ 4 := by
  have := Lib.runeCells_le r
  rwa [Lib.runeCells_length] at this
theorem ans_good_gap (st : Bool) (r : Int) (rs : List Int) (h : badR r = false) : ansOf st true (r :: rs) = 95 :: (Lib.encodeRune r ++ ansOf true false rs) := by
  unfold ansOf
  rw [goS_good h]
  rfl
theorem ans_good (st : Bool) (r : Int) (rs : List Int) (h : badR r = false) : ansOf st false (r :: rs) = Lib.encodeRune r ++ ansOf true false rs := by
  unfold ansOf
  rw [goS_good h]
  rfl
theorem ans_bad (st g : Bool) (r : Int) (rs : List Int) (h : badR r = true) : ansOf st g (r :: rs) = ansOf st (st || g) rs := by
  unfold ansOf
  rw [goS_bad h]
theorem ans_nil {st g : Bool} : ansOf st g [] = [] := by simp [ansOf, goS]
theorem ans_empty {st g : Bool} {rs : List Int} : ansOf st g rs = [] ↔ goS st g rs = [] := by
  unfold ansOf
  constructor
  · intro h
    cases e : goS st g rs with
    | nil => rfl
    | cons x t =>
      rw [e, List.flatMap_cons] at h
      exact absurd (List.append_eq_nil_iff.1 h).1 (encode_ne x)
  · intro h
    rw [h]
    rfl
theorem san_ans (l : List UInt8) : san l = if ansOf false false (runesL l) = [] then [95] else ansOf false false (runesL l) := by
  unfold san sanR
  by_cases h : goS false false (runesL l) = []
  · rw [if_pos h, if_pos (ans_empty.2 h)]
    rfl
  · rw [if_neg h, if_neg fun e => h (ans_empty.1 e)]
    rfl

set_option maxHeartbeats 16000000 in
set_option maxRecDepth 100000 in
theorem sanitize_any (s : ByteArray) (w : World) (hs : s.size ≤ 4194304) : Calls Tryd.prog 15 #[.string s] w fun e w' => e = .returned (.string (S (san s.data.toList))) ∧ Below w.heap.size w w' := by
  have hlen : s.data.toList.length = s.size := (Lib.size_eq s).symm
  have HLEN := Lib.hid hlen
  clear hlen
  go_enter Tryd.func15, Tryd.ntmps15
  go_wp2_with fail
  go_loopg [4] s.size (fun gk s4 wx => SanRel s w gk s4 wx)
  case atStart =>
    have hb0 : Bld w.heap.size w.heap.size [] (w.alloc (.cells #[.pointer none, .slice none 0 0] 123)) := Lib.fresh_isBuilder 123 5 w
    refine ⟨false, 0, [], rfl, hb0.below (iter_below _ s 0), ?_, ?_, by omega, by omega, by simp, by simp⟩
    · have := World.iter_heap (w.alloc (.cells #[.pointer none, .slice none 0 0] 123)) s 0
      simpa using this
    · exact ((Below.refl _ _).alloc (Nat.le_refl _) _).trans ((iter_below _ s 0).mono (by simp))
  case round =>
    obtain ⟨g, pos, l, rfl, hB, hit, hbw, hfu, hps, hll, hans⟩ := hrel
    have hsz := hbw.size
    by_cases hlt : pos < s.size
    · obtain ⟨g', rfl⟩ : ∃ g', gk = g' + 1 := ⟨gk - 1, by omega⟩
      have hnx : ∀ ty, (Instr.next (.pointer (some ⟨w.heap.size + 1, 0, none⟩)) true ty).run Tryd.prog wr = _ := fun ty => Lib.run_next_any_at wr (w.heap.size + 1) s pos ty hit hlt
      have hne : s.data.toList.drop pos ≠ [] := by
        intro h0
        have := congrArg List.length h0
        rw [List.length_drop, HLEN.out] at this
        simp at this
        omega
      have hwd := Lib.width_pos s pos
      have hwn : pos + (Utf8.decode s pos).2 ≤ s.size := by
        have := Lib.decodeL_le _ hne
        rw [Lib.decodeL_drop, List.length_drop, HLEN.out] at this
        omega
      have hrl := Lib.rune_le s pos
      have hstep := runesL_step _ hne
      rw [Lib.decodeL_drop] at hstep
      obtain ⟨R, hR⟩ : ∃ R, (Utf8.decode s pos).1 = R := ⟨_, rfl⟩
      obtain ⟨K, hK⟩ : ∃ K, (Utf8.decode s pos).2 = K := ⟨_, rfl⟩
      rw [hR, hK] at hnx hstep
      rw [hK] at hwd hwn
      rw [hR] at hrl
      rw [List.drop_drop] at hstep
      rw [hstep] at hans
      have hit2 := Lib.iterAt_heap wr (w.heap.size + 1) s pos (pos + K) hit
      have hbw2 := Lib.below_iterAt hbw (k := w.heap.size + 1) (by omega) s (pos + K)
      have hB2 := hB.iterAt hit (pos + K)
      obtain ⟨W, hWd⟩ : ∃ W, wr.iterAt (w.heap.size + 1) s (pos + K) = W := ⟨_, rfl⟩
      rw [hWd] at hnx hit2 hbw2 hB2
      have HA := Lib.hid hans
      have HB := Lib.hid (And.intro hB2 (And.intro hit2 hbw2))
      have hszW := hbw2.size
      clear hit hbw hB hWd hR hK hstep hans hit2 hbw2 hB2 hne
      cases hbad : badR (R : Int)
      · have hgood := good_cases hbad
        have HBAD := Lib.hid hbad
        clear hbad
        obtain ⟨g0, g1, g2, g3, g4, g5, g6, g7⟩ := hgood
        cases g
        · go_wp2_with fail
          refine (writeRune_k w.heap.size w.heap.size l (R : Int) (by omega) (by omega) W HB.out.1 (by omega) hszW).mono ?_
          rintro e w2 ⟨⟨k, rfl⟩, hB3, hb3, hk3⟩
          have hit3 := Lib.OthersKept.iter hk3 HB.out.2.1 (by omega)
          have HC := Lib.hid (And.intro hB3 (And.intro hit3 (HB.out.2.2.trans (hb3.mono (Nat.le_refl _)))))
          clear hB3 hb3 hk3 hit3
          go_wp2_with fail
          go_roundg g'
          case measure => omega
          case rel =>
            have hl4 := enc_len (R : Int)
            refine ⟨false, pos + K, _, rfl, HC.out.1, HC.out.2.1, HC.out.2.2, by omega, hwn, by rw [List.length_append]; omega, ?_⟩
            rw [← HA.out, ans_good _ _ _ HBAD.out, ← List.append_assoc, decide_eq_true (by simp [encode_ne])]
        · go_wp2_with fail
          refine (writeByte_k w.heap.size w.heap.size l 95 95 rfl W HB.out.1 (by omega) hszW).mono ?_
          rintro e w2 ⟨rfl, hB3, hb3, hk3⟩
          have hit3 := Lib.OthersKept.iter hk3 HB.out.2.1 (by omega)
          have hsz2 := hb3.size
          have HC := Lib.hid (And.intro hB3 (And.intro hit3 (HB.out.2.2.trans (hb3.mono (Nat.le_refl _)))))
          clear hB3 hb3 hk3 hit3
          go_wp2_with fail
          refine (writeRune_k w.heap.size w.heap.size (l ++ [95]) (R : Int) (by omega) (by omega) w2 HC.out.1 (by rw [List.length_append]; simp; omega) (by omega)).mono ?_
          rintro e w3 ⟨⟨k, rfl⟩, hB4, hb4, hk4⟩
          have hit4 := Lib.OthersKept.iter hk4 HC.out.2.1 (by omega)
          have HD := Lib.hid (And.intro hB4 (And.intro hit4 (HC.out.2.2.trans (hb4.mono (Nat.le_refl _)))))
          clear hB4 hb4 hk4 hit4
          go_wp2_with fail
          go_roundg g'
          case measure => omega
          case rel =>
            have hl4 := enc_len (R : Int)
            refine ⟨false, pos + K, _, rfl, HD.out.1, HD.out.2.1, HD.out.2.2, by omega, hwn, by rw [List.length_append, List.length_append]; simp; omega, ?_⟩
            rw [← HA.out, ans_good_gap _ _ _ HBAD.out, decide_eq_true (by simp)]
            simp
      · have hcs := bad_cases hbad
        have hab := ans_bad (decide (l ≠ [])) g (R : Int) (runesL (s.data.toList.drop (pos + K))) hbad
        have HA2 := Lib.hid (show ∀ b, b = (decide (l ≠ []) || g) → l ++ ansOf (decide (l ≠ [])) b (runesL (s.data.toList.drop (pos + K))) = ansOf false false (runesL s.data.toList) by
          rintro b rfl
          rw [← hab]
          exact HA.out)
        clear hbad hab
        have hcl : ∃ z, decide (0 < l.length) = z ∧ z = decide (l ≠ []) := by
          refine ⟨_, rfl, ?_⟩
          cases l with
          | nil => rfl
          | cons x t => simp
        obtain ⟨z, hz, hz2⟩ := hcl
        have HZ := Lib.hid hz2
        clear hz2
        rcases hcs with hcs | hcs | hcs | hcs | hcs | hcs | hcs | hcs
        · by_cases h0 : (R : Int) = 0
          · cases z
            all_goals (
              go_wp2_with (go_at_call 23; refine (bldLen_any w.heap.size w.heap.size l W HB.out.1).mono ?_; rintro e w2 ⟨rfl, rfl⟩)
              go_roundg g'
              case measure => omega
              case rel => exact ⟨_, pos + K, l, rfl, HB.out.1, HB.out.2.1, HB.out.2.2, by omega, hwn, by omega, HA2.out _ (by rw [← HZ.out]; simp)⟩)
          · cases z
            all_goals (
              go_wp2_with (go_at_call 23; refine (bldLen_any w.heap.size w.heap.size l W HB.out.1).mono ?_; rintro e w2 ⟨rfl, rfl⟩)
              go_roundg g'
              case measure => omega
              case rel => exact ⟨_, pos + K, l, rfl, HB.out.1, HB.out.2.1, HB.out.2.2, by omega, hwn, by omega, HA2.out _ (by rw [← HZ.out]; simp)⟩)
        all_goals (
          cases z
          all_goals (
            go_wp2_with (go_at_call 23; refine (bldLen_any w.heap.size w.heap.size l W HB.out.1).mono ?_; rintro e w2 ⟨rfl, rfl⟩)
            go_roundg g'
            case measure => omega
            case rel => exact ⟨_, pos + K, l, rfl, HB.out.1, HB.out.2.1, HB.out.2.2, by omega, hwn, by omega, HA2.out _ (by rw [← HZ.out]; simp)⟩))
    · obtain rfl : pos = s.size := by omega
      have hnx : ∀ ty, (Instr.next (.pointer (some ⟨w.heap.size + 1, 0, none⟩)) true ty).run Tryd.prog wr = _ := fun ty => Lib.run_next_end_at wr (w.heap.size + 1) s s.size ty hit (by omega)
      rw [List.drop_of_length_le (by rw [HLEN.out]; exact Nat.le_refl _), runesL_nil, ans_nil, List.append_nil] at hans
      have hsan := san_ans s.data.toList
      rw [← hans] at hsan
      by_cases hl0 : l = []
      · rw [if_pos hl0] at hsan
        have HS := Lib.hid hsan
        have hz : ((l.length : Int) == 0) = true := by rw [hl0]; rfl
        have HB := Lib.hid (And.intro hB hbw)
        clear hB hbw hit hans hsan hl0
        go_wp2_with (go_at_call 23; refine (bldLen_any w.heap.size w.heap.size l wr HB.out.1).mono ?_; rintro e w2 ⟨rfl, rfl⟩)
        go_ret
        exact ⟨by rw [HS.out]; rfl, HB.out.2⟩
      · rw [if_neg hl0] at hsan
        have HS := Lib.hid hsan
        have hz : ((l.length : Int) == 0) = false := by rw [beq_eq_false_iff_ne]; have := List.length_pos_iff.2 hl0; omega
        have HB := Lib.hid (And.intro hB hbw)
        clear hB hbw hit hans hsan hl0
        go_wp2_with (go_at_call 23; refine (bldLen_any w.heap.size w.heap.size l wr HB.out.1).mono ?_; rintro e w2 ⟨rfl, rfl⟩)
        refine (Tryd.Builder_String_any w.heap.size w.heap.size l _ HB.out.1 hsz).mono ?_
        rintro e w2 ⟨rfl, hb2⟩
        go_wp2_with fail
        go_ret
        exact ⟨by rw [HS.out]; rfl, HB.out.2.trans hb2⟩

end Go.Proofs.YtejdbjfniepomaaDoor
