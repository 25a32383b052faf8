/-
  (NameMinifier).NumberToMinifiedName: the word of the numbering; conditions: those that each lemma names.
-/
import Derived.Test.YtmnoffiblcnjpaaNam
import Derived.Test.YtmnoffiblcnjpaaRow
namespace Go.Proofs.Ytmnoffiblcnjpaa
open Go.RowKit

theorem one_letter (s : ByteArray) (j : Nat) (h : j < s.size) : (s.extract j (j + 1)).data.toList = [s[j]] := by
  have hl : j < s.data.toList.length := by rw [size_len]; exact h
  rw [extract_S, S_data, show j + 1 - j = 1 by omega, List.drop_eq_getElem_cons hl]
  simp only [List.take_succ_cons, List.take_zero]
  rw [← at_get s j h, getElem!_pos s.data.toList j hl]
/-- A minifier that was boxed: its two strings. -/
def mfn (h t : ByteArray) (i : Nat) : Value := if i = 0 then .string h else .string t
theorem num_new (h t : ByteArray) (w : World) {W : World} (hW : W = w.alloc (.cells #[.string h, .string t] 26)) :
    W.heap.size = w.heap.size + 1 ∧ Row W w.heap.size 26 2 (mfn h t) ∧ Bld (w.heap.size + 1) (w.heap.size + 1) [] (W.alloc (.cells #[.pointer none, .slice none 0 0] 45)) ∧ Below (w.heap.size + 1) W (W.alloc (.cells #[.pointer none, .slice none 0 0] 45)) ∧ Below w.heap.size w W := by
  have hs : W.heap.size = w.heap.size + 1 := by rw [hW]; simp
  refine ⟨hs, ?_, ?_, ?_, ?_⟩
  · rw [hW]
    refine Row.new w 26 _ 2 _ rfl fun i hi => ?_
    rcases (by omega : i = 0 ∨ i = 1) with rfl | rfl <;> rfl
  · rw [← hs]; exact Lib.fresh_isBuilder 45 5 W
  · rw [← hs]; exact (Below.refl _ _).alloc (Nat.le_refl _) _
  · rw [hW]; exact (Below.refl _ _).alloc (Nat.le_refl _) _
set_option maxHeartbeats 4000000 in
set_option maxRecDepth 100000 in
theorem num_any (h t : ByteArray) (k : Nat) (hk : k < 9223372036854775808) (hh : 2 ≤ h.size) (ht : 2 ≤ t.size) (hh2 : h.size ≤ 64) (ht2 : t.size ≤ 64) (w : World) :
    Calls Try.prog 10 #[.agg #[.string h, .string t], .int .i64 k] w fun e w' => e = .returned (.string (S (nm h.data.toList t.data.toList k))) ∧ Below w.heap.size w w' := by
  have hz : (0 : Int) < h.size := by omega
  have tz : (0 : Int) < t.size := by omega
  obtain ⟨nh, hnh⟩ : ∃ nh, h.size = nh := ⟨_, rfl⟩
  obtain ⟨nt, hnt⟩ : ∃ nt, t.size = nt := ⟨_, rfl⟩
  obtain ⟨j, hj⟩ : ∃ j, k % nh = j := ⟨_, rfl⟩
  have hm : j < nh := by rw [← hj]; exact Nat.mod_lt _ (by omega)
  have hmi : (k : Int) % (nh : Int) = (j : Int) := by omega
  obtain ⟨q, hq⟩ : ∃ q, k / nh = q := ⟨_, rfl⟩
  have hqi : (k : Int) / (nh : Int) = (q : Int) := by rw [← hq]; exact (Int.natCast_ediv _ _).symm
  have hjh : j < h.size := by omega
  have hqk : q * 2 ^ 1 ≤ 2 ^ 63 := by
    have h1 : q ≤ k / 2 := by rw [← hq]; exact Nat.div_le_div_left (by omega) (by decide)
    omega
  have hF : Hid (nm h.data.toList t.data.toList k = [h[j]] ++ tl t.data.toList q) := by
    unfold nm
    rw [size_len, hnh, hj, hq, at_get h j hjh]
    rfl
  clear hq
  obtain ⟨W, hWe⟩ : ∃ W, W = w.alloc (.cells #[.string h, .string t] 26) := ⟨_, rfl⟩
  have HN := Lib.hid (And.intro hWe (num_new h t w hWe))
  clear hWe
  go_enter Try.func10, Try.ntmps10
  go_wp2_with fail
  try rw [hmi]
  go_wp2_with fail
  rw [← HN.out.1]
  refine (writeString_any (w.heap.size + 1) (w.heap.size + 1) [] (h.extract j (j + 1)) _ HN.out.2.2.2.1 (by rw [ByteArray.size_extract]; simp; omega) (by have := HN.out.2.2.2.2.1.size; rw [HN.out.2.1] at this; exact this)).mono ?_
  rintro e w1 ⟨rfl, hb1, hB1⟩
  have H1 := Lib.hid (And.intro hb1 (HN.out.2.2.2.2.1.trans hB1))
  clear hb1 hB1
  go_wp2_with fail
  try rw [hqi]
  go_loopw [1] (fun s0 wr => ∃ (q' : Nat) (l : List UInt8), s0 = .int .i64 q' ∧ q' < 9223372036854775808 ∧ q' * 2 ^ l.length ≤ 2 ^ 63 ∧ Bld (w.heap.size + 1) (w.heap.size + 1) l wr ∧ Below (w.heap.size + 1) W wr ∧ l ++ tl t.data.toList q' = nm h.data.toList t.data.toList k) (fun s0 _ => (intOf s0).toNat)
  case atStart => exact ⟨q, [h[j]], rfl, by omega, hqk, by have := H1.out.1; rw [one_letter h j hjh] at this; exact this, H1.out.2, hF.out.symm⟩
  case round =>
    obtain ⟨q', l, rfl, hq', hrm, hb, hB, hL⟩ := hrel
    have hsz : w.heap.size + 1 ≤ wr.heap.size := by have := hB.size; rw [HN.out.2.1] at this; exact this
    have hrow := HN.out.2.2.1.below hB (Nat.lt_succ_self _)
    have hc0 := hrow.cell (i := 0) (by omega)
    have hc1 := hrow.cell (i := 1) (by omega)
    simp only [mfn] at hc0 hc1
    clear hrow
    have HK := Lib.hid (And.intro hb (And.intro hB (And.intro hL hrm)))
    clear hb hB hL hrm
    by_cases h0 : q' = 0
    · subst h0
      go_wp2_with fail
      refine (Try.Builder_String_any (w.heap.size + 1) (w.heap.size + 1) l _ HK.out.1 hsz).mono ?_
      rintro e w2 ⟨rfl, hB2⟩
      go_wp2_with fail
      go_ret
      refine ⟨ret_str (congrArg S ?_), HN.out.2.2.2.2.2.trans ((HK.out.2.1.trans hB2).mono (Nat.le_succ _))⟩
      have := HK.out.2.2.1
      rw [tl_zero, List.append_nil] at this
      exact this
    · have hpos : 0 < q' := by omega
      obtain ⟨j2, hj2⟩ : ∃ j2, (q' - 1) % nt = j2 := ⟨_, rfl⟩
      have hm2 : j2 < nt := by rw [← hj2]; exact Nat.mod_lt _ (by omega)
      have hm2i : ((q' : Int) - 1) % (nt : Int) = (j2 : Int) := by rw [← hj2, show (q' : Int) - 1 = ((q' - 1 : Nat) : Int) by omega]; exact (Int.natCast_emod _ _).symm
      obtain ⟨q2, hq2⟩ : ∃ q2, (q' - 1) / nt = q2 := ⟨_, rfl⟩
      have hq2i : ((q' : Int) - 1) / (nt : Int) = (q2 : Int) := by rw [← hq2, show (q' : Int) - 1 = ((q' - 1 : Nat) : Int) by omega]; exact (Int.natCast_ediv _ _).symm
      have hj2t : j2 < t.size := by omega
      have hlt : q2 < q' := by rw [← hq2]; exact Nat.lt_of_le_of_lt (Nat.div_le_self _ _) (by omega)
      have hlen : l.length ≤ 63 := room HK.out.2.2.2 hpos
      have HT := Lib.hid (show l ++ [t[j2]] ++ tl t.data.toList q2 = nm h.data.toList t.data.toList k ∧ q2 * 2 ^ (l.length + 1) ≤ 2 ^ 63 by
        have e := HK.out.2.2.1
        rw [tl_pos _ hpos, size_len, hnt, hj2, hq2, at_get t j2 hj2t] at e
        refine ⟨by rw [← e]; simp, ?_⟩
        rw [← hq2]
        exact room_step HK.out.2.2.2 hpos (by omega))
      clear hj2 hq2
      go_wp2_with fail
      try rw [hm2i]
      go_wp2_with fail
      refine (writeString_any (w.heap.size + 1) (w.heap.size + 1) l (t.extract j2 (j2 + 1)) _ HK.out.1 (by rw [ByteArray.size_extract]; omega) hsz).mono ?_
      rintro e w2 ⟨rfl, hb2, hB2⟩
      rw [one_letter t j2 hj2t] at hb2
      have H2 := Lib.hid (And.intro hb2 (HK.out.2.1.trans hB2))
      clear hb2 hB2
      go_wp2_with fail
      try rw [hq2i]
      go_roundw
      case rel => exact ⟨q2, _, rfl, by omega, by rw [List.length_append]; exact HT.out.2, H2.out.1, H2.out.2, HT.out.1⟩
      case measure => simp [intOf]; omega
end Go.Proofs.Ytmnoffiblcnjpaa
