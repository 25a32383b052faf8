/-
  The contract of b2Escape; conditions: the sizes that it names.
-/
import Derived.Test.YtalnapcphdmjaaaDoorSpc
import Derived.Test.YtalnapcphdmjaaaDoorMark
namespace Go.Proofs.YtalnapcphdmjaaaDoor
open Go.RowKit

theorem drop_get (s : ByteArray) (k : Nat) (h : k < s.size) : s.data.toList.drop k = s[k] :: s.data.toList.drop (k + 1) := by
  have h' : k < s.data.toList.length := by rw [← Lib.size_eq]; exact h
  rw [List.drop_eq_getElem_cons h']
  rfl
theorem scan_end (tag : List UInt8) (s : ByteArray) (k : Nat) (h : k < s.size) (m : List UInt8) (E : List UInt8) (hm : m ++ esc tag (s.data.toList.drop k) = E) (hh : hit tag s[k] (s.data.toList.drop (k + 1)) = false) : (m ++ [s[k]]) ++ esc tag (s.data.toList.drop (k + 1)) = E := by
  rw [drop_get s k h, esc_cons, hh, if_neg (by decide)] at hm
  rw [← hm, List.append_assoc]
  rfl
theorem scan_hit (tag : List UInt8) (s : ByteArray) (k : Nat) (h : k < s.size) (m : List UInt8) (E : List UInt8) (hm : m ++ esc tag (s.data.toList.drop k) = E) (hh : hit tag s[k] (s.data.toList.drop (k + 1)) = true) : ((m ++ [s[k]]) ++ [92]) ++ esc tag (s.data.toList.drop (k + 1)) = E := by
  rw [drop_get s k h, esc_cons, hh, if_pos rfl] at hm
  rw [← hm, List.append_assoc, List.append_assoc]
  rfl


theorem made_in (w : World) (s : ByteArray) (hs : s.size ≤ maxLen) : InRow (w.drew.alloc (.cells (bytesRow s (grownCap w s.size 0 5)) 5 ((bytesRow s (grownCap w s.size 0 5)).size, (bytesRow s (grownCap w s.size 0 5)).size + 1))) (some ⟨w.heap.size, 0, none⟩) s.size (grownCap w s.size 0 5) (Lib.byteCells s.data.toList) := by
  have hge := grownCap_ge w s.size 0 5
  have hcm := grownCap_le_maxLen w s.size 0 5 hs
  refine .inr ⟨_, rfl, by omega, hcm, by rw [Lib.byteCells_length, ← Lib.size_eq], fun i u hu => ?_⟩
  have hi := (List.getElem?_eq_some_iff.1 hu).1
  rw [Lib.byteCells_length, ← Lib.size_eq] at hi
  have ha : (⟨w.heap.size, 0, none⟩ : Addr).add i = ⟨w.heap.size, i, none⟩ := by unfold Addr.add; split <;> simp_all
  rw [ha]
  refine (Lib.cell_of_heap (heap_alloc_new w.drew _) i).trans ?_
  unfold bytesRow
  rw [Array.getElem?_append_left (by simpa using hi)]
  unfold Lib.byteCells at hu
  simpa using hu


def EEnd (l : List UInt8) (w : World) (e : Ending) (w' : World) : Prop := ∃ a cap, e = .returned (.slice a l.length cap) ∧ InRow w' a l.length cap (Lib.byteCells l) ∧ Below w.heap.size w w'
theorem buf_in {B : Nat} {v : Value} {l : List UInt8} {W0 w : World} (h : Buf B 5 v l W0 w) : ∃ a cap, v = .slice a l.length cap ∧ InRow w a l.length cap (Lib.byteCells l) := by
  rcases h.1.2 with ⟨rfl, h0⟩ | ⟨g, cap, cur, fz, rfl, _, hg, _, hlc, hcm, _, htk⟩
  · have : l = [] := List.eq_nil_of_length_eq_zero h0
    subst this
    exact ⟨none, 0, rfl, .inl ⟨rfl, rfl, rfl, rfl⟩⟩
  · refine ⟨_, cap, rfl, .inr ⟨_, rfl, hlc, hcm, Lib.byteCells_length _, fun i u hu => ?_⟩⟩
    have hi := (List.getElem?_eq_some_iff.1 hu).1
    rw [Lib.byteCells_length] at hi
    have ha : (⟨g, 0, none⟩ : Addr).add i = ⟨g, i, none⟩ := by unfold Addr.add; split <;> simp_all
    rw [Nat.mul_one] at htk
    rw [ha]
    refine (Lib.cell_of_heap hg i).trans ?_
    rw [← Array.getElem?_toList, ← List.getElem?_take_of_lt hi, htk]
    exact hu

set_option maxHeartbeats 2000000 in
set_option maxRecDepth 100000 in
theorem escape_any (text : ByteArray) (w : World) (hs : text.size ≤ 1048576) :
    Calls Tryd.prog 12 #[.string text] w (EEnd (esc styleTag text.data.toList) w) := by
  obtain ⟨i0, hi, hz0, hz1, hz2⟩ := info_parts bld_byte
  have HI := Lib.hid (And.intro hi (And.intro hz0 (And.intro hz1 hz2)))
  clear hi hz0 hz1 hz2
  have hcv := fun wx => run_bytes_of_string (P := Tryd.prog) wx 9 22 5 text Tryd.underlying9 Tryd.underlying22 Tryd.underlying5
  have hin := made_in w text (by unfold maxLen; omega)
  have hbl := (BufM.made w 5 text (by unfold maxLen; omega)).below
  obtain ⟨w1, hw1⟩ : ∃ w1, w.drew.alloc (.cells (bytesRow text (grownCap w text.size 0 5)) 5 ((bytesRow text (grownCap w text.size 0 5)).size, (bytesRow text (grownCap w text.size 0 5)).size + 1)) = w1 := ⟨_, rfl⟩
  have hcw := hcv w
  rw [hw1] at hcw hin hbl
  have H := Lib.hid (And.intro hin hbl)
  clear hcv hin hbl hw1
  have hszw := H.out.2.size
  go_enter Tryd.func12, Tryd.ntmps12
  go_wp2_with (at_make; refine wpList_make_own _ rfl _ _ 22 rfl w1.heap.size 5 i0 (.int .u8 0) 1 Tryd.underlying22 HI.out.1 HI.out.2.1 HI.out.2.2.1 _ _ _ (text.size + text.size / 7 + 1) rfl rfl (by omega) (by rw [HI.out.2.2.2]; omega) (by unfold maxLen; omega) (Nat.le_refl _) ?_; intro w2 hown hgrow)
  have hb := Buf.made hown hgrow (Below.refl _ _) (Nat.le_refl _)
  clear hown hgrow
  go_loopw [4, 5] (fun v i wr => ∃ (k : Nat) (m : List UInt8), k ≤ text.size ∧ i = .int .i64 k ∧ Buf w1.heap.size 5 v m w1 wr ∧ m.length ≤ 2 * k ∧ m ++ esc styleTag (text.data.toList.drop k) = esc styleTag text.data.toList) (fun _ i _ => text.size - (intOf i).toNat)
  case atStart => exact ⟨0, [], Nat.zero_le _, rfl, hb, Nat.zero_le _, rfl⟩
  case round =>
    clear hb
    obtain ⟨k, m, hk, rfl, hb, hml, hm⟩ := hrel
    have HM := Lib.hid hm
    clear hm
    by_cases hlt : k < text.size
    · have hch := closes_hit text k hlt
      obtain ⟨b, hcl⟩ : ∃ b, closes text k = b := ⟨_, rfl⟩
      rw [hcl] at hch
      have HH := Lib.hid hch
      have HC := Lib.hid hcl
      clear hch hcl
      obtain ⟨x1, b1, hx1, e1, c1⟩ := in_get (H.out.1.up hb.below) hlt
      obtain rfl := Option.some.inj hx1
      have e2 := Lib.data_getElem? text k hlt
      rw [e1] at e2
      obtain rfl := Option.some.inj e2
      clear e1 hx1
      rw [Addr.add_lit, Nat.zero_add] at c1
      cases b
      · go_wp2_with (first | (at_builtin; refine buf_byte rfl (.tmp 22) (.tmp 27) 22 rfl w1.heap.size 5 i0 Tryd.underlying22 HI.out.1 HI.out.2.1 HI.out.2.2.1 HI.out.2.2.2 _ m rfl w1 _ _ text[k] rfl hb rfl (by omega) ?_; intro v' w' hb'; clear hb) | (go_at_call 17; refine (closes_val text (some ⟨w.heap.size, 0, none⟩) (grownCap w text.size 0 5) k false _ (H.out.1.up hb'.below) (by omega) hlt HC.out).mono ?_; rintro e w' ⟨rfl, rfl⟩))
        exact ⟨⟨k + 1, _, by omega, by go_num, hb', by simp only [List.length_append, List.length_cons, List.length_nil]; omega, scan_end _ text k hlt m _ HM.out HH.out⟩, by simp [intOf]; omega⟩
      · go_wp2_with (first | (at_builtin; refine buf_byte rfl (.tmp 22) (.tmp 27) 22 rfl w1.heap.size 5 i0 Tryd.underlying22 HI.out.1 HI.out.2.1 HI.out.2.2.1 HI.out.2.2.2 _ m rfl w1 _ _ text[k] rfl hb rfl (by omega) ?_; intro v' w' hb'; clear hb) | (go_at_call 17; refine (closes_val text (some ⟨w.heap.size, 0, none⟩) (grownCap w text.size 0 5) k true _ (H.out.1.up hb'.below) (by omega) hlt HC.out).mono ?_; rintro e w' ⟨rfl, rfl⟩) | (at_builtin; refine buf_byte rfl (.tmp 32) (.tmp 33) 22 rfl w1.heap.size 5 i0 Tryd.underlying22 HI.out.1 HI.out.2.1 HI.out.2.2.1 HI.out.2.2.2 _ (m ++ [text[k]]) rfl w1 _ _ 92 rfl hb' rfl (by rw [List.length_append]; simp; omega) ?_; intro v2 w2 hb2; clear hb'))
        exact ⟨⟨k + 1, _, by omega, by go_num, hb2, by simp only [List.length_append, List.length_cons, List.length_nil]; omega, scan_hit _ text k hlt m _ HM.out HH.out⟩, by simp [intOf]; omega⟩
    · have hfin : m = esc styleTag text.data.toList := by
        have := HM.out
        rw [show text.data.toList.drop k = [] from List.drop_eq_nil_of_le (by rw [← Lib.size_eq]; omega)] at this
        rw [← this]
        simp [esc]
      subst hfin
      obtain ⟨ae, ce, rfl, hie⟩ := buf_in hb
      have hfb := H.out.2.trans (hb.below.mono hszw)
      go_wp2_with fail
      go_ret
      exact ⟨ae, ce, rfl, hie, hfb⟩

end Go.Proofs.YtalnapcphdmjaaaDoor
