/-
  The byte model's contract and the walk of the byte-scan law; conditions: what the listed tables hold.
-/
import Derived.Test.YtonimbfpdajblaaDoorWalkA
namespace Go.Proofs.YtonimbfpdajblaaDoor
open Go.RowKit

theorem info_parts {o : Option TypeInfo} (h : o.map (fun i => (i.zero, i.size, i.bytes)) = some (some (.int .u8 0), 1, 1)) : ∃ i, o = some i ∧ i.zero = some (.int .u8 0) ∧ i.size = 1 ∧ i.bytes = 1 := by
  cases o with
  | none => cases h
  | some i =>
    have := Option.some.inj h
    exact ⟨i, rfl, congrArg (·.1) this, congrArg (·.2.1) this, congrArg (·.2.2) this⟩

theorem scan_end (tag : List UInt8) (s : ByteArray) (k : Nat) (h : k < s.size) (m : List UInt8) (E : List UInt8) (hm : m ++ esc tag (s.data.toList.drop k) = E) (hh : hit tag s[k] (s.data.toList.drop (k + 1)) = false) : (m ++ [s[k]]) ++ esc tag (s.data.toList.drop (k + 1)) = E := by
  rw [drop_get s k h, esc_cons, hh, if_neg (by decide)] at hm
  rw [← hm, List.append_assoc]
  rfl
theorem scan_hit (tag : List UInt8) (s : ByteArray) (k : Nat) (h : k < s.size) (m : List UInt8) (E : List UInt8) (hm : m ++ esc tag (s.data.toList.drop k) = E) (hh : hit tag s[k] (s.data.toList.drop (k + 1)) = true) : ((m ++ [s[k]]) ++ [92]) ++ esc tag (s.data.toList.drop (k + 1)) = E := by
  rw [drop_get s k h, esc_cons, hh, if_pos rfl] at hm
  rw [← hm, List.append_assoc, List.append_assoc]
  rfl
theorem hit_no60 {tag : List UInt8} {c : UInt8} {r : List UInt8} (h : ((c.toNat : Int) == 60) = false) : hit tag c r = false := by
  have : c ≠ 60 := byte_ne (b := 60) h
  unfold hit
  rw [decide_eq_false this, Bool.false_and, Bool.false_and]
theorem hit_noend {tag : List UInt8} {c : UInt8} {s : ByteArray} {k : Nat} (h : ¬ k < s.size) : hit tag c (s.data.toList.drop k) = false := by
  unfold hit
  rw [show s.data.toList.drop k = [] from List.drop_eq_nil_of_le (by rw [← Lib.size_eq]; omega)]
  simp
theorem hit_no47 {tag : List UInt8} {c : UInt8} {s : ByteArray} {k : Nat} (h : k < s.size) (hc : ((s[k].toNat : Int) == 47) = false) : hit tag c (s.data.toList.drop k) = false := by
  have : s[k] ≠ 47 := byte_ne (b := 47) hc
  unfold hit
  rw [drop_get s k h]
  simp [this]
theorem hit_fold {tag : List UInt8} {c : UInt8} {s : ByteArray} {k : Nat} (h : k < s.size) (h1 : ((c.toNat : Int) == 60) = true) (hc : ((s[k].toNat : Int) == 47) = true) (b : Bool) (hb : foldPre (s.data.toList.drop k) tag = b) : hit tag c (s.data.toList.drop k) = b := by
  have e1 : c = 60 := byte_eq (b := 60) h1
  have e2 : s[k] = 47 := byte_eq (b := 47) hc
  unfold hit
  rw [hb, drop_get s k h, e1, e2]
  simp

theorem Buf.drewN {B : Nat} {e : TypeId} {v : Value} {l : List UInt8} {W0 w : World} (h : Buf B e v l W0 w) (n : Nat) : Buf B e v l W0 (w.drewN n) := Lib.OwnBuf.drewN h n

theorem foldAt_val (s p : ByteArray) (i : Nat) (r : Bool) (w : World) (hs : s.size ≤ 1099511627776) (hp : p.size ≤ 1099511627776) (hi : i ≤ s.size) (hr : foldPre (s.data.toList.drop i) p.data.toList = r) :
    Calls Tryd.prog 11 #[.string s, .int .i64 i, .string p] w fun e w' => e = .returned (.bool r) ∧ ∃ n, w' = w.drewN n := by
  have h := foldAt_any s p i w hs hp hi
  rw [hr] at h
  exact h

set_option maxHeartbeats 800000 in
theorem model_any (s tag : ByteArray) (w : World) (hs : s.size ≤ 1048576) (ht1 : 1 ≤ tag.size) (ht : tag.size ≤ 1048576) :
    Calls Tryd.prog 8 #[.string s, .string tag] w fun e w' => e = .returned (.string (S (esc tag.data.toList s.data.toList))) ∧ Below w.heap.size w w' := by
  obtain ⟨i0, hi0, hz0, hz1, hz2⟩ := info_parts infoU8
  have HI := Lib.hid (And.intro hi0 (And.intro hz0 (And.intro hz1 hz2)))
  clear hi0 hz0 hz1 hz2
  have h0 : ((tag.size : Int) == 0) = false := by rw [beq_eq_false_iff_ne]; omega
  go_enter Tryd.func8, Tryd.ntmps8
  go_wp2
  go_loopw [5, 6] (fun v i wr => ∃ (k : Nat) (m : List UInt8), k ≤ s.size ∧ i = .int .i64 k ∧ Buf w.heap.size 5 v m w wr ∧ m.length ≤ 2 * k ∧ m ++ esc tag.data.toList (s.data.toList.drop k) = esc tag.data.toList s.data.toList) (fun _ i _ => s.size - (intOf i).toNat)
  case atStart => exact ⟨0, [], Nat.zero_le _, rfl, Buf.nil _ _, Nat.zero_le _, rfl⟩
  case round =>
    obtain ⟨k, m, hk, rfl, hb, hml, hm⟩ := hrel
    have HM := Lib.hid hm
    clear hm
    by_cases hlt : k < s.size
    · have hf : ∃ b, foldPre (s.data.toList.drop (k + 1)) tag.data.toList = b := ⟨_, rfl⟩
      obtain ⟨b, hf⟩ := hf
      have HF := Lib.hid hf
      clear hf
      have hlt' : k + 1 ≤ s.size := hlt
      cases h60 : ((s[k].toNat : Int) == 60)
      · go_wp2_with (at_builtin; refine buf_byte rfl (.tmp 17) (.tmp 21) 27 rfl w.heap.size 5 i0 Tryd.underlying27 HI.out.1 HI.out.2.1 HI.out.2.2.1 HI.out.2.2.2 _ m rfl w _ _ s[k] rfl hb rfl (by omega) ?_; intro v' w' hb'; clear hb)
        exact ⟨⟨k + 1, _, by omega, by go_num, hb', by simp only [List.length_append, List.length_cons, List.length_nil]; omega, scan_end _ s k hlt m _ HM.out (hit_no60 h60)⟩, by simp [intOf]; omega⟩
      · by_cases hn : k + 1 < s.size
        · have b0 : (0 : Int) ≤ (k : Int) + 1 := by omega
          have b1 : (k : Int) + 1 < s.size := by omega
          cases h47 : ((s[k + 1].toNat : Int) == 47)
          · go_wp2_with (at_builtin; refine buf_byte rfl (.tmp 17) (.tmp 21) 27 rfl w.heap.size 5 i0 Tryd.underlying27 HI.out.1 HI.out.2.1 HI.out.2.2.1 HI.out.2.2.2 _ m rfl w _ _ s[k] rfl hb rfl (by omega) ?_; intro v' w' hb'; clear hb)
            exact ⟨⟨k + 1, _, by omega, by go_num, hb', by simp only [List.length_append, List.length_cons, List.length_nil]; omega, scan_end _ s k hlt m _ HM.out (hit_no47 hn h47)⟩, by simp [intOf]; omega⟩
          · cases b
            · go_wp2_with (first | (at_builtin; refine buf_byte rfl (.tmp 17) (.tmp 21) 27 rfl w.heap.size 5 i0 Tryd.underlying27 HI.out.1 HI.out.2.1 HI.out.2.2.1 HI.out.2.2.2 _ m rfl w _ _ s[k] rfl hb rfl (by omega) ?_; intro v' w' hb'; clear hb) | (go_at_call 11; refine (foldAt_val s tag (k + 1) false _ (by omega) (by omega) (by omega) HF.out).mono ?_; rintro e w' ⟨rfl, nd, rfl⟩; replace hb' := hb'.drewN nd))
              exact ⟨⟨k + 1, _, by omega, by go_num, hb', by simp only [List.length_append, List.length_cons, List.length_nil]; omega, scan_end _ s k hlt m _ HM.out (hit_fold hn h60 h47 _ HF.out)⟩, by simp [intOf]; omega⟩
            · go_wp2_with (first | (at_builtin; refine buf_byte rfl (.tmp 17) (.tmp 21) 27 rfl w.heap.size 5 i0 Tryd.underlying27 HI.out.1 HI.out.2.1 HI.out.2.2.1 HI.out.2.2.2 _ m rfl w _ _ s[k] rfl hb rfl (by omega) ?_; intro v' w' hb'; clear hb) | (go_at_call 11; refine (foldAt_val s tag (k + 1) true _ (by omega) (by omega) (by omega) HF.out).mono ?_; rintro e w' ⟨rfl, nd, rfl⟩; replace hb' := hb'.drewN nd) | (at_builtin; refine buf_byte rfl (.tmp 48) (.tmp 49) 27 rfl w.heap.size 5 i0 Tryd.underlying27 HI.out.1 HI.out.2.1 HI.out.2.2.1 HI.out.2.2.2 _ (m ++ [s[k]]) rfl w _ _ 92 rfl hb' rfl (by rw [List.length_append]; simp; omega) ?_; intro v2 w2 hb2; clear hb'))
              exact ⟨⟨k + 1, _, by omega, by go_num, hb2, by simp only [List.length_append, List.length_cons, List.length_nil]; omega, scan_hit _ s k hlt m _ HM.out (hit_fold hn h60 h47 _ HF.out)⟩, by simp [intOf]; omega⟩
        · have b1 : ¬ (k : Int) + 1 < s.size := by omega
          go_wp2_with (at_builtin; refine buf_byte rfl (.tmp 17) (.tmp 21) 27 rfl w.heap.size 5 i0 Tryd.underlying27 HI.out.1 HI.out.2.1 HI.out.2.2.1 HI.out.2.2.2 _ m rfl w _ _ s[k] rfl hb rfl (by omega) ?_; intro v' w' hb'; clear hb)
          exact ⟨⟨k + 1, _, by omega, by go_num, hb', by simp only [List.length_append, List.length_cons, List.length_nil]; omega, scan_end _ s k hlt m _ HM.out (hit_noend hn)⟩, by simp [intOf]; omega⟩
    · have hfin : m = esc tag.data.toList s.data.toList := by
        have := HM.out
        rw [show s.data.toList.drop k = [] from List.drop_eq_nil_of_le (by rw [← Lib.size_eq]; omega)] at this
        rw [← this]
        simp [esc]
      subst hfin
      have hcv := hb.convert (P := Tryd.prog) 27 9 Tryd.underlying27 Tryd.underlying5 Tryd.underlying9
      go_wp2
      go_ret
      exact ⟨by simp, hb.below⟩
end Go.Proofs.YtonimbfpdajblaaDoor
