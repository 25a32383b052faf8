/-
  The words of the numbering, in plain words, and zzRefName; conditions: those that each lemma names.
-/
import Derived.Test.YtmnoffiblcnjpaaBld
import Derived.Test.YtmnoffiblcnjpaaStr
import Derived.Test.YtmnoffiblcnjpaaShelf
import Derived.WalkSpells
import Derived.WalkLawsBesides
import Derived.OwnWalk
import Derived.Deep.LoopGhost
namespace Go.Proofs.Ytmnoffiblcnjpaa
open Go.RowKit

/-- The letters behind the first one. -/
def tl (T : List UInt8) (q : Nat) : List UInt8 := if q = 0 then [] else T[(q - 1) % T.length]! :: tl T ((q - 1) / T.length)
termination_by q
decreasing_by exact Nat.lt_of_le_of_lt (Nat.div_le_self _ _) (by omega)
theorem tl_zero (T : List UInt8) : tl T 0 = [] := by rw [tl]; rfl
theorem tl_pos (T : List UInt8) {q : Nat} (h : 0 < q) : tl T q = T[(q - 1) % T.length]! :: tl T ((q - 1) / T.length) := by rw [tl, if_neg (by omega)]
/-- The k-th word over the first letters H and the letters T. -/
def nm (H T : List UInt8) (k : Nat) : List UInt8 := H[k % H.length]! :: tl T (k / H.length)
theorem half_step {k n : Nat} (hk : 0 < k) (hn : 2 ≤ n) : (k - 1) / n * 2 ≤ k := by
  have h : (k - 1) / n ≤ (k - 1) / 2 := Nat.div_le_div_left hn (by decide)
  omega
theorem room {k m : Nat} (h : k * 2 ^ m ≤ 2 ^ 63) (hk : 0 < k) : m ≤ 63 := by
  have h1 : 2 ^ m ≤ 2 ^ 63 := Nat.le_trans (Nat.le_mul_of_pos_left _ hk) h
  exact (Nat.pow_le_pow_iff_right (by decide)).1 h1
theorem room_step {k n m : Nat} (h : k * 2 ^ m ≤ 2 ^ 63) (hk : 0 < k) (hn : 2 ≤ n) : (k - 1) / n * 2 ^ (m + 1) ≤ 2 ^ 63 := by
  have := half_step hk hn
  rw [Nat.pow_succ, Nat.mul_comm (2 ^ m) 2, ← Nat.mul_assoc]
  exact Nat.le_trans (Nat.mul_le_mul_right _ this) h
theorem at_get (s : ByteArray) (i : Nat) (h : i < s.size) : s.data.toList[i]! = s[i] := by
  have e := Lib.data_getElem? s i h
  rw [List.getElem!_eq_getElem?_getD, e]
  rfl
theorem size_len (s : ByteArray) : s.data.toList.length = s.size := (Lib.size_eq s).symm
set_option maxHeartbeats 4000000 in
set_option maxRecDepth 100000 in
theorem ref_any (h t : ByteArray) (k : Nat) (hk : k < 9223372036854775808) (hh : 2 ≤ h.size) (ht : 2 ≤ t.size) (hh2 : h.size ≤ 64) (ht2 : t.size ≤ 64) (w : World) :
    Calls Try.prog 15 #[.int .i64 k, .string h, .string t] w fun e w' => e = .returned (.string (S (nm h.data.toList t.data.toList k))) ∧ Below w.heap.size w w' := by
  have hz : (0 : Int) < h.size := by omega
  have tz : (0 : Int) < t.size := by omega
  obtain ⟨nh, hnh⟩ : ∃ nh, h.size = nh := ⟨_, rfl⟩
  obtain ⟨nt, hnt⟩ : ∃ nt, t.size = nt := ⟨_, rfl⟩
  obtain ⟨j, hj⟩ : ∃ j, k % nh = j := ⟨_, rfl⟩
  have hm : j < nh := by rw [← hj]; exact Nat.mod_lt _ (by omega)
  have hmi : (k : Int) % (nh : Int) = (j : Int) := by omega
  obtain ⟨q, hq⟩ : ∃ q, k / nh = q := ⟨_, rfl⟩
  have hqi : (k : Int) / (nh : Int) = (q : Int) := by rw [← hq]; exact (Int.natCast_ediv _ _).symm
  have hjh : j < h.size := by omega
  have hqk : q * 2 ^ 1 ≤ 2 ^ 63 := by
    have h1 : q ≤ k / 2 := by rw [← hq]; exact Nat.div_le_div_left (by omega) (by decide)
    omega
  have hF : Hid (nm h.data.toList t.data.toList k = [h[j]] ++ tl t.data.toList q) := by
    unfold nm
    rw [size_len, hnh, hj, hq, at_get h j hjh]
    rfl
  clear hq
  go_enter Try.func15, Try.ntmps15
  go_wp2_with fail
  try rw [hmi]
  go_wp2_with fail
  refine (writeByte_any w.heap.size w.heap.size [] h[j] _ rfl _ (Lib.fresh_isBuilder _ _ w) (by decide) (by simp)).mono ?_
  rintro e w1 ⟨rfl, hb1, hB1⟩
  have H1 := Lib.hid (And.intro hb1 (((Below.refl _ _).alloc (Nat.le_refl _) _).trans hB1))
  clear hb1 hB1
  go_wp2_with fail
  try rw [hqi]
  go_loopw [0] (fun s0 wr => ∃ (q' : Nat) (l : List UInt8), s0 = .int .i64 q' ∧ q' < 9223372036854775808 ∧ q' * 2 ^ l.length ≤ 2 ^ 63 ∧ Bld w.heap.size w.heap.size l wr ∧ Below w.heap.size w wr ∧ l ++ tl t.data.toList q' = nm h.data.toList t.data.toList k) (fun s0 _ => (intOf s0).toNat)
  case atStart => exact ⟨q, [h[j]], rfl, by omega, hqk, H1.out.1, H1.out.2, hF.out.symm⟩
  case round =>
    obtain ⟨q', l, rfl, hq', hrm, hb, hB, hL⟩ := hrel
    have hsz := hB.size
    have HK := Lib.hid (And.intro hb (And.intro hB (And.intro hL hrm)))
    clear hb hB hL hrm
    by_cases h0 : q' = 0
    · subst h0
      go_wp2_with fail
      refine (Try.Builder_String_any w.heap.size w.heap.size l _ HK.out.1 hsz).mono ?_
      rintro e w2 ⟨rfl, hB2⟩
      go_wp2_with fail
      go_ret
      refine ⟨ret_str (congrArg S ?_), HK.out.2.1.trans hB2⟩
      have := HK.out.2.2.1
      rw [tl_zero, List.append_nil] at this
      exact this
    · have hpos : 0 < q' := by omega
      obtain ⟨j2, hj2⟩ : ∃ j2, (q' - 1) % nt = j2 := ⟨_, rfl⟩
      have hm2 : j2 < nt := by rw [← hj2]; exact Nat.mod_lt _ (by omega)
      have hm2i : ((q' : Int) - 1) % (nt : Int) = (j2 : Int) := by rw [← hj2, show (q' : Int) - 1 = ((q' - 1 : Nat) : Int) by omega]; exact (Int.natCast_emod _ _).symm
      obtain ⟨q2, hq2⟩ : ∃ q2, (q' - 1) / nt = q2 := ⟨_, rfl⟩
      have hq2i : ((q' : Int) - 1) / (nt : Int) = (q2 : Int) := by rw [← hq2, show (q' : Int) - 1 = ((q' - 1 : Nat) : Int) by omega]; exact (Int.natCast_ediv _ _).symm
      have hj2t : j2 < t.size := by omega
      have hlt : q2 < q' := by rw [← hq2]; exact Nat.lt_of_le_of_lt (Nat.div_le_self _ _) (by omega)
      have hlen : l.length ≤ 63 := room HK.out.2.2.2 hpos
      have HT := Lib.hid (show l ++ [t[j2]] ++ tl t.data.toList q2 = nm h.data.toList t.data.toList k ∧ q2 * 2 ^ (l.length + 1) ≤ 2 ^ 63 by
        have e := HK.out.2.2.1
        rw [tl_pos _ hpos, size_len, hnt, hj2, hq2, at_get t j2 hj2t] at e
        refine ⟨by rw [← e]; simp, ?_⟩
        rw [← hq2]
        exact room_step HK.out.2.2.2 hpos (by omega))
      clear hj2 hq2
      go_wp2_with fail
      try rw [hm2i]
      go_wp2_with fail
      refine (writeByte_any w.heap.size w.heap.size l t[j2] _ rfl _ HK.out.1 (by omega) hsz).mono ?_
      rintro e w2 ⟨rfl, hb2, hB2⟩
      have H2 := Lib.hid (And.intro hb2 (HK.out.2.1.trans hB2))
      clear hb2 hB2
      go_wp2_with fail
      try rw [hq2i]
      go_roundw
      case rel => exact ⟨q2, _, rfl, by omega, by rw [List.length_append]; exact HT.out.2, H2.out.1, H2.out.2, HT.out.1⟩
      case measure => simp [intOf]; omega
end Go.Proofs.Ytmnoffiblcnjpaa
