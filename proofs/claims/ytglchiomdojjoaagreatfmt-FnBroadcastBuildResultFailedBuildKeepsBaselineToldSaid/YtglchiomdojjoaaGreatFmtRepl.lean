/-
  The contract of zzReplaceAll: every place of the old text replaced by the new one; conditions: the old text is not empty, the sizes that it names.
-/
import Derived.Test.YtglchiomdojjoaaGreatFmtIdx
namespace Go.Proofs.YtglchiomdojjoaaGreatFmt
open Go.RowKit

set_option maxHeartbeats 400000 in
theorem replaceAll_any (s old new : ByteArray) (w : World) (h1 : 1 ≤ old.size) (ho : old.size ≤ 1073741824) (hsz : s.size * (new.size + 1) ≤ 1099511627776) (hn : new.size ≤ 1073741824) :
    Calls Tryz.prog 29 #[.string s, .string old, .string new] w fun e w' => e = .returned (.string (S (repl old.data.toList new.data.toList s.size s.data.toList))) ∧ Below w.heap.size w w' := by
  have hs0 : s.size ≤ 1099511627776 := Nat.le_trans (by rw [Nat.mul_add, Nat.mul_one]; omega) hsz
  have hold : old.data.toList ≠ [] := by intro e; rw [Lib.size_eq, e] at h1; simp at h1
  have HO := Lib.hid hold
  have HZ := Lib.hid hsz
  clear hold hsz
  obtain ⟨i0, hi0, hz0, hz1, hz2⟩ := info_parts infoU8
  have HI := Lib.hid (And.intro hi0 (And.intro hz0 (And.intro hz1 hz2)))
  clear hi0 hz0 hz1 hz2
  go_enter Tryz.func29, Tryz.ntmps29
  go_wp2_with fail
  go_loopw [0, 7] (fun p v wr => ∃ (t : ByteArray) (l : List UInt8), p = .string t ∧ Buf w.heap.size 5 v l w wr ∧ t.size ≤ s.size ∧ l.length + t.size * (new.size + 1) ≤ s.size * (new.size + 1) ∧ l ++ repl old.data.toList new.data.toList t.size t.data.toList = repl old.data.toList new.data.toList s.size s.data.toList) (fun p _ _ => match p with | .string t => t.size | _ => 0)
  case atStart => exact ⟨s, [], rfl, Buf.nil _ _, Nat.le_refl _, by simp, rfl⟩
  case round =>
    obtain ⟨t, l, rfl, hb, ht, hl, hr⟩ := hrel
    have HR := Lib.hid hr
    have HL := Lib.hid hl
    have hlb : l.length + t.size ≤ 1099511627776 := by
      have := HZ.out
      have h2 : t.size ≤ t.size * (new.size + 1) := by rw [Nat.mul_add, Nat.mul_one]; omega
      omega
    clear hr hl
    rcases index_cases t old with hi | ⟨i, hi, hio⟩
    · have HX := Lib.hid hi
      clear hi
      go_wp2_with (first | (go_at_call 43; refine (index_no t old _ (by omega) (by omega) h1 HX.out).mono ?_; rintro e w' ⟨rfl, rfl⟩) | (at_builtin; refine buf_text rfl _ _ 74 9 rfl w.heap.size 5 i0 Tryz.underlying74 Tryz.underlying9 HI.out.1 HI.out.2.1 HI.out.2.2.1 HI.out.2.2.2 _ l rfl w hb t rfl (by omega) ?_; intro v' w' hb'; have hcv := hb'.convert (P := Tryz.prog) 74 9 Tryz.underlying74 Tryz.underlying5 Tryz.underlying9))
      go_ret
      refine ⟨ret_str ?_, hb'.below⟩
      rw [← HR.out, repl_none (by have := HX.out; unfold Lib.indexB at this; omega)]
    · have HX := Lib.hid hi
      clear hi
      go_wp2_with (first | (go_at_call 43; refine (index_at t old i _ (by omega) (by omega) h1 HX.out).mono ?_; rintro e w' ⟨rfl, rfl⟩) | (at_builtin; refine buf_text rfl (.tmp 18) (.tmp 21) 74 9 rfl w.heap.size 5 i0 Tryz.underlying74 Tryz.underlying9 HI.out.1 HI.out.2.1 HI.out.2.2.1 HI.out.2.2.2 _ l rfl w hb (t.extract 0 i) rfl (by simp only [ByteArray.size_extract]; omega) ?_; intro v1 w1 hb1; clear hb) | (at_builtin; refine buf_text rfl (.tmp 22) (.tmp 23) 74 9 rfl w.heap.size 5 i0 Tryz.underlying74 Tryz.underlying9 HI.out.1 HI.out.2.1 HI.out.2.2.1 HI.out.2.2.2 _ _ rfl w hb1 new rfl (by rw [List.length_append, ← Lib.size_eq]; simp only [ByteArray.size_extract]; omega) ?_; intro v2 w2 hb2; clear hb1))
      have e1 : (t.extract (i + old.size) t.size).size = t.size - (i + old.size) := by simp
      refine ⟨⟨t.extract (i + old.size) t.size, _, rfl, hb2, by omega, ?_, ?_⟩, by show (t.extract (i + old.size) t.size).size < t.size; omega⟩
      · have h2 := bd_step i old.size t.size new.size hio h1
        have h3 := HL.out
        have h4 : (l ++ (t.extract 0 i).data.toList ++ new.data.toList).length = l.length + i + new.size := by
          rw [List.length_append, List.length_append, ← Lib.size_eq, ← Lib.size_eq]
          simp only [ByteArray.size_extract]
          omega
        rw [e1, h4]
        omega
      · rw [← HR.out]
        have h5 : Lib.index t.data.toList old.data.toList = (i : Int) := HX.out
        have h6 := repl_step (new := new.data.toList) HO.out h5 (by rw [← Lib.size_eq, ← Lib.size_eq]; exact hio)
        rw [Lib.size_eq t, h6, Lib.size_eq (t.extract _ _), Lib.extract_data, Lib.extract_data, ← Lib.size_eq old, List.drop_zero, Nat.sub_zero, ← Lib.size_eq t]
        rw [List.take_of_length_le (i := t.size - (i + old.size)) (by rw [List.length_drop, ← Lib.size_eq]; exact Nat.le_refl _)]
        simp only [List.append_assoc]

end Go.Proofs.YtglchiomdojjoaaGreatFmt
