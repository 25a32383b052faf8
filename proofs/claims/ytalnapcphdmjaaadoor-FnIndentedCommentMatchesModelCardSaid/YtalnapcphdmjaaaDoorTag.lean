/-
  The contract of EscapeClosingTag: the text with a backslash behind every '<' that stands before the closing tag; conditions: the tag is ASCII and not empty, what the listed tables hold, the sizes that each names.
-/
import Derived.Test.YtalnapcphdmjaaaDoorHigh
import Derived.Test.YtalnapcphdmjaaaDoorBld
import Derived.Test.YtalnapcphdmjaaaDoorIdx
import Derived.Test.YtalnapcphdmjaaaDoorShelf
namespace Go.Proofs.YtalnapcphdmjaaaDoor
open Go.RowKit

theorem first_high : ∀ l : List UInt8, (∃ b ∈ l, 128 ≤ b.toNat) → ∃ p, p < l.length ∧ 128 ≤ (l.getD p 0).toNat ∧ ∀ (j : Nat) b, j < p → l[j]? = some b → b.toNat < 128
  | [], ⟨b, hb, _⟩ => by cases hb
  | x :: r, ⟨b, hb, h8⟩ => by
    by_cases hx : 128 ≤ x.toNat
    · exact ⟨0, by simp, by simpa using hx, fun j b hj => by omega⟩
    · have hr : ∃ b ∈ r, 128 ≤ b.toNat := by
        rcases List.mem_cons.1 hb with rfl | hb
        · exact absurd h8 hx
        · exact ⟨b, hb, h8⟩
      obtain ⟨p, h1, h2, h3⟩ := first_high r hr
      refine ⟨p + 1, by simp; omega, by simpa using h2, fun j b hj hjb => ?_⟩
      cases j with
      | zero => simp at hjb; subst hjb; omega
      | succ k => exact h3 k b (by omega) (by simpa using hjb)

theorem fold_any (s t : ByteArray) (w : World) (hT : Tabs w) (hst : s.size = t.size) (hs : s.size ≤ 65536) (ht : Ascii t) :
    Calls Tryd.prog 26 #[.string s, .string t] w fun e w' => e = .returned (.bool (foldPre s.data.toList t.data.toList)) ∧ Below w.heap.size w w' := by
  have hta : ∀ b ∈ t.data.toList, b.toNat < 128 := fun b hb => by
    obtain ⟨j, hj⟩ := List.getElem?_of_mem hb
    exact ht j b hj
  have hl : s.data.toList.length = t.data.toList.length := by rw [← Lib.size_eq, ← Lib.size_eq]; exact hst
  by_cases hh : ∃ b ∈ s.data.toList, 128 ≤ b.toNat
  · obtain ⟨p, h1, h2, h3⟩ := first_high _ hh
    rw [foldPre_high _ _ hl hh hta]
    exact fold_high s t p w hT hst hs ht (by rw [Lib.size_eq]; exact h1) h3 h2
  · have hsa : ∀ b ∈ s.data.toList, b.toNat < 128 := fun b hb => by
      apply Classical.byContradiction
      intro h
      exact hh ⟨b, hb, by omega⟩
    refine (Tryd.strings_EqualFold s t w (by omega) (fun j b hj => hsa b (List.mem_of_getElem? hj)) ht).mono ?_
    rintro e w' ⟨rfl, rfl⟩
    rw [foldPre_equal _ _ hl hsa hta]
    exact ⟨rfl, Below.refl _ _⟩
/-- At the piece that the escaper hands over. -/
theorem fold_piece (u tag : ByteArray) (w : World) (hT : Tabs w) (hu : tag.size ≤ u.size) (hs : tag.size ≤ 65536) (ht : Ascii tag) (b : Bool) (hb : foldPre u.data.toList tag.data.toList = b) :
    Calls Tryd.prog 26 #[.string (u.extract 0 tag.size), .string tag] w fun e w' => e = .returned (.bool b) ∧ Below w.heap.size w w' := by
  have hz : (u.extract 0 tag.size).size = tag.size := by simp; omega
  have := fold_any (u.extract 0 tag.size) tag w hT hz (by omega) ht
  rw [Lib.extract_data, List.drop_zero, Nat.sub_zero, Lib.size_eq tag, foldPre_take, hb, ← Lib.size_eq] at this
  exact this

theorem bld_up {B b : Nat} {l : List UInt8} {w w' : World} (h : Bld B b l w) (hb : Below w.heap.size w w') : Bld B b l w' := by
  have one : ∀ {p : Value}, Lib.BuilderAt 75 5 B b p (Lib.byteCells l) w → Lib.BuilderAt 75 5 B b p (Lib.byteCells l) w' := by
    intro p ⟨hB, v, hbk, hown, hne⟩
    refine ⟨hB, v, (hb.block b (bld_lt hbk)).trans hbk, ⟨hown.1, ?_⟩, hne⟩
    rcases hown.2 with h | ⟨g, cap, cur, hv, hg, hh, r⟩
    · exact .inl h
    · exact .inr ⟨g, cap, cur, hv, hg, (hb.block g (bld_lt hh)).trans hh, r⟩
  rcases h with h | h
  · exact .inl (one h)
  · exact .inr (one h)

def lt : ByteArray := ⟨#[60, 47]⟩
def EscRel (s tag : ByteArray) (w : World) (s0 s5 : Value) (wr : World) : Prop :=
  ∃ (t : ByteArray) (i : Nat) (l : List UInt8), s0 = .string t ∧ s5 = .int .i64 i ∧ Lib.indexB t lt = (i : Int) ∧ i + 2 ≤ t.size ∧ Bld w.heap.size w.heap.size l wr ∧ Below w.heap.size w wr ∧ l ++ esc tag.data.toList t.data.toList = esc tag.data.toList s.data.toList ∧ l.length + 2 * t.size ≤ 2 * s.size

theorem extract_end (t : ByteArray) (n : Nat) : (t.extract n t.size).data.toList = t.data.toList.drop n := by
  rw [Lib.extract_data, List.take_of_length_le (by rw [List.length_drop, ← Lib.size_eq]; exact Nat.le_refl _)]

set_option maxHeartbeats 8000000 in
set_option maxRecDepth 100000 in
theorem esc_some (s tag : ByteArray) (w : World) (i0 : Nat) (hT : Tabs w) (hs : s.size ≤ 4194304) (h1 : 1 ≤ tag.size) (h2 : tag.size ≤ 65536) (ht : Ascii tag) (hi : Lib.indexB s lt = (i0 : Int)) (hi2 : i0 + 2 ≤ s.size) :
    Calls Tryd.prog 19 #[.string s, .string tag] w fun e w' => e = .returned (.string (S (esc tag.data.toList s.data.toList))) ∧ Below w.heap.size w w' := by
  have HT := Lib.hid hT
  have HA := Lib.hid ht
  have HI := Lib.hid hi
  have hne : tag.toList.isEmpty = false := by
    rw [Lib.toList_data, List.isEmpty_eq_false_iff]
    intro e
    rw [Lib.size_eq, e] at h1
    exact absurd h1 (by decide)
  have hlt : lt.size = 2 := rfl
  have HLT := Lib.hid hlt
  clear hT ht hi hlt
  go_enter Tryd.func19, Tryd.ntmps19
  go_wp2_with (go_at_call 24; refine (index_at s lt i0 _ (by omega) (by decide) (by decide) HI.out).mono ?_; rintro e w' ⟨rfl, rfl⟩)
  go_loopw [0, 5] (fun s0 s5 wr => EscRel s tag w s0 s5 wr) (fun s0 _ _ => match s0 with | .string t => t.size | _ => 0)
  case atStart => exact ⟨s, i0, [], rfl, rfl, HI.out, hi2, Lib.fresh_isBuilder _ _ w, (Below.refl _ _).alloc (Nat.le_refl _) _, rfl, by simp⟩
  case round =>
    clear hi2
    obtain ⟨t, i, l, rfl, rfl, hi, hi2, hbl, hb, hacc, hlen⟩ := hrel
    have hsz := hb.size
    have HB := Lib.hid (And.intro hi (And.intro hbl (And.intro hb hacc)))
    have hz1 : (t.extract 0 (i + 1)).size = i + 1 := by simp; omega
    have HZ1 := Lib.hid hz1
    clear hi hbl hb hacc hz1
    go_wp2_with fail
    refine (writeString_any w.heap.size w.heap.size l _ _ HB.out.2.1 (by rw [HZ1.out]; omega) hsz).mono ?_
    rintro e w1 ⟨rfl, hbl1, hb1⟩
    have hB1 := HB.out.2.2.1.trans hb1
    have hs1 := hB1.size
    obtain ⟨t', ht'⟩ : ∃ t', t.extract (i + 1) t.size = t' := ⟨_, rfl⟩
    have htd : t'.data.toList = t.data.toList.drop (i + 1) := by rw [← ht']; exact extract_end t (i + 1)
    have hts : t'.size = t.size - (i + 1) := by rw [← ht']; simp
    have hstep := esc_at tag.data.toList t.data.toList i HB.out.1
    rw [← htd] at hstep
    have hT1 := HT.out.up (hB1.mono (Nat.le_refl _))
    have H1 := Lib.hid (And.intro hbl1 (And.intro hB1 (And.intro hT1 (And.intro hstep hts))))
    have hle1 : t'.size + i + 1 = t.size := by omega
    have hlr : (l ++ (t.extract 0 (i + 1)).data.toList).length = l.length + i + 1 := by rw [List.length_append, ← Lib.size_eq, HZ1.out]; omega
    have HLR := Lib.hid hlr
    clear hbl1 hb1 hB1 htd hts hstep hT1 hlr
    have hd1 : (t.extract 0 (i + 1)).data.toList = t.data.toList.take (i + 1) := by rw [Lib.extract_data, List.drop_zero, Nat.sub_zero]
    have HD1 := Lib.hid hd1
    clear hd1
    by_cases hsm : t'.size < tag.size
    · have hfb : foldPre t'.data.toList tag.data.toList = false := foldPre_short _ _ (by rw [← Lib.size_eq, ← Lib.size_eq]; exact hsm)
      have HFB := Lib.hid hfb
      clear hfb
      have hdd : True := trivial
      rcases index_cases t' lt with hix | ⟨i', hix, hio⟩
      · have HIX := Lib.hid hix
        clear hix
        go_wp2_with (first | (go_at_call 24; refine (index_no t' lt _ (by omega) (by decide) (by decide) HIX.out).mono ?_; rintro e w' ⟨rfl, rfl⟩))
        refine (writeString_any w.heap.size w.heap.size _ _ _ H1.out.1 (by have h7 := HLR.out; omega) (by first | exact hs1 | exact hs2)).mono ?_
        rintro e w5 ⟨rfl, hbl5, hb5⟩
        have hB5 := (H1.out.2.1).trans hb5
        have hs5 := hB5.size
        have HF := Lib.hid (And.intro hbl5 hB5)
        clear hbl5 hb5 hB5
        go_wp2_with fail
        refine (Tryd.Builder_String_any w.heap.size w.heap.size _ _ HF.out.1 hs5).mono ?_
        rintro e w6 ⟨rfl, hb6⟩
        go_wp2_with fail
        go_ret
        refine ⟨ret_str (congrArg S ?_), HF.out.2.trans hb6⟩
        have h5 : esc tag.data.toList t'.data.toList = t'.data.toList := esc_none _ _ (by have := HIX.out; unfold Lib.indexB at this; rw [show lt.data.toList = [60, 47] from rfl] at this; omega)
        have h6 := H1.out.2.2.2.1
        rw [HFB.out, h5] at h6
        first | (rw [← HB.out.2.2.2, h6, HD1.out]; simp; done) | (rw [← HB.out.2.2.2, h6]; simp; done)
      · have HIX := Lib.hid hix
        have hio2 : i' + 2 ≤ t'.size := hio
        clear hix hio
        go_wp2_with (first | (go_at_call 24; refine (index_at t' lt i' _ (by omega) (by decide) (by decide) HIX.out).mono ?_; rintro e w' ⟨rfl, rfl⟩))
        refine ⟨⟨t', i', _, rfl, rfl, HIX.out, hio2, H1.out.1, H1.out.2.1, ?_, ?_⟩, by show t'.size < t.size; omega⟩
        · have h6 := H1.out.2.2.2.1
          rw [HFB.out] at h6
          first | (rw [← HB.out.2.2.2, h6, HD1.out]; simp; done) | (rw [← HB.out.2.2.2, h6]; simp; done) | (rw [← HB.out.2.2.2, h6, HD1.out]; done)
        · have h7 := HLR.out
          omega
    · cases hfb : foldPre t'.data.toList tag.data.toList
      · have HFB := Lib.hid hfb
        clear hfb
        have H2B := Lib.hid (fun (w2 : World) (h : Below w1.heap.size w1 w2) => (show Bld w.heap.size w.heap.size _ w2 ∧ w.heap.size ≤ w2.heap.size ∧ Below w.heap.size w w2 from ⟨bld_up H1.out.1 h, Nat.le_trans hs1 h.size, H1.out.2.1.trans (h.mono hs1)⟩))
        rcases index_cases t' lt with hix | ⟨i', hix, hio⟩
        · have HIX := Lib.hid hix
          clear hix
          go_wp2_with (first | (go_at_call 24; refine (index_no t' lt _ (by omega) (by decide) (by decide) HIX.out).mono ?_; rintro e w' ⟨rfl, rfl⟩) | (go_at_call 26; refine (fold_piece t' tag _ H1.out.2.2.1 (by omega) h2 HA.out false HFB.out).mono ?_; rintro e w2 ⟨rfl, hb2⟩; have hbl2 := H2B.out _ hb2; have hs2 := hbl2.2.1; have HC2 := Lib.hid hbl2; clear hb2 hbl2))
          refine (writeString_any w.heap.size w.heap.size _ _ _ HC2.out.1 (by have h7 := HLR.out; omega) (by first | exact hs1 | exact hs2)).mono ?_
          rintro e w5 ⟨rfl, hbl5, hb5⟩
          have hB5 := (HC2.out.2.2).trans hb5
          have hs5 := hB5.size
          have HF := Lib.hid (And.intro hbl5 hB5)
          clear hbl5 hb5 hB5
          go_wp2_with fail
          refine (Tryd.Builder_String_any w.heap.size w.heap.size _ _ HF.out.1 hs5).mono ?_
          rintro e w6 ⟨rfl, hb6⟩
          go_wp2_with fail
          go_ret
          refine ⟨ret_str (congrArg S ?_), HF.out.2.trans hb6⟩
          have h5 : esc tag.data.toList t'.data.toList = t'.data.toList := esc_none _ _ (by have := HIX.out; unfold Lib.indexB at this; rw [show lt.data.toList = [60, 47] from rfl] at this; omega)
          have h6 := H1.out.2.2.2.1
          rw [HFB.out, h5] at h6
          first | (rw [← HB.out.2.2.2, h6, HD1.out]; simp; done) | (rw [← HB.out.2.2.2, h6]; simp; done)
        · have HIX := Lib.hid hix
          have hio2 : i' + 2 ≤ t'.size := hio
          clear hix hio
          go_wp2_with (first | (go_at_call 24; refine (index_at t' lt i' _ (by omega) (by decide) (by decide) HIX.out).mono ?_; rintro e w' ⟨rfl, rfl⟩) | (go_at_call 26; refine (fold_piece t' tag _ H1.out.2.2.1 (by omega) h2 HA.out false HFB.out).mono ?_; rintro e w2 ⟨rfl, hb2⟩; have hbl2 := H2B.out _ hb2; have hs2 := hbl2.2.1; have HC2 := Lib.hid hbl2; clear hb2 hbl2))
          refine ⟨⟨t', i', _, rfl, rfl, HIX.out, hio2, HC2.out.1, HC2.out.2.2, ?_, ?_⟩, by show t'.size < t.size; omega⟩
          · have h6 := H1.out.2.2.2.1
            rw [HFB.out] at h6
            first | (rw [← HB.out.2.2.2, h6, HD1.out]; simp; done) | (rw [← HB.out.2.2.2, h6]; simp; done) | (rw [← HB.out.2.2.2, h6, HD1.out]; done)
          · have h7 := HLR.out
            omega
      · have HFB := Lib.hid hfb
        clear hfb
        have H2B := Lib.hid (fun (w2 : World) (h : Below w1.heap.size w1 w2) => (show Bld w.heap.size w.heap.size _ w2 ∧ w.heap.size ≤ w2.heap.size ∧ Below w.heap.size w w2 from ⟨bld_up H1.out.1 h, Nat.le_trans hs1 h.size, H1.out.2.1.trans (h.mono hs1)⟩))
        rcases index_cases t' lt with hix | ⟨i', hix, hio⟩
        · have HIX := Lib.hid hix
          clear hix
          go_wp2_with (first | (go_at_call 24; refine (index_no t' lt _ (by omega) (by decide) (by decide) HIX.out).mono ?_; rintro e w' ⟨rfl, rfl⟩) | (go_at_call 26; refine (fold_piece t' tag _ H1.out.2.2.1 (by omega) h2 HA.out true HFB.out).mono ?_; rintro e w2 ⟨rfl, hb2⟩; have hbl2 := H2B.out _ hb2; have hs2 := hbl2.2.1; have HC2 := Lib.hid hbl2; clear hb2 hbl2) | (go_at_call 27; refine (writeByte_any w.heap.size w.heap.size _ 92 _ rfl _ HC2.out.1 (by have h7 := HLR.out; omega) hs2).mono ?_; rintro e w3 ⟨rfl, hbl3, hb3⟩; have hB3 := HC2.out.2.2.trans hb3; have hs3 := hB3.size; have HC3 := Lib.hid (And.intro hbl3 hB3); clear hbl3 hb3 hB3))
          refine (writeString_any w.heap.size w.heap.size _ _ _ HC3.out.1 (by have h7 := HLR.out; rw [List.length_append]; simp only [List.length_cons, List.length_nil]; omega) (by first | exact hs3)).mono ?_
          rintro e w5 ⟨rfl, hbl5, hb5⟩
          have hB5 := (HC3.out.2).trans hb5
          have hs5 := hB5.size
          have HF := Lib.hid (And.intro hbl5 hB5)
          clear hbl5 hb5 hB5
          go_wp2_with fail
          refine (Tryd.Builder_String_any w.heap.size w.heap.size _ _ HF.out.1 hs5).mono ?_
          rintro e w6 ⟨rfl, hb6⟩
          go_wp2_with fail
          go_ret
          refine ⟨ret_str (congrArg S ?_), HF.out.2.trans hb6⟩
          have h5 : esc tag.data.toList t'.data.toList = t'.data.toList := esc_none _ _ (by have := HIX.out; unfold Lib.indexB at this; rw [show lt.data.toList = [60, 47] from rfl] at this; omega)
          have h6 := H1.out.2.2.2.1
          rw [HFB.out, h5] at h6
          first | (rw [← HB.out.2.2.2, h6, HD1.out]; simp; done) | (rw [← HB.out.2.2.2, h6]; simp; done)
        · have HIX := Lib.hid hix
          have hio2 : i' + 2 ≤ t'.size := hio
          clear hix hio
          go_wp2_with (first | (go_at_call 24; refine (index_at t' lt i' _ (by omega) (by decide) (by decide) HIX.out).mono ?_; rintro e w' ⟨rfl, rfl⟩) | (go_at_call 26; refine (fold_piece t' tag _ H1.out.2.2.1 (by omega) h2 HA.out true HFB.out).mono ?_; rintro e w2 ⟨rfl, hb2⟩; have hbl2 := H2B.out _ hb2; have hs2 := hbl2.2.1; have HC2 := Lib.hid hbl2; clear hb2 hbl2) | (go_at_call 27; refine (writeByte_any w.heap.size w.heap.size _ 92 _ rfl _ HC2.out.1 (by have h7 := HLR.out; omega) hs2).mono ?_; rintro e w3 ⟨rfl, hbl3, hb3⟩; have hB3 := HC2.out.2.2.trans hb3; have hs3 := hB3.size; have HC3 := Lib.hid (And.intro hbl3 hB3); clear hbl3 hb3 hB3))
          refine ⟨⟨t', i', _, rfl, rfl, HIX.out, hio2, HC3.out.1, HC3.out.2, ?_, ?_⟩, by show t'.size < t.size; omega⟩
          · have h6 := H1.out.2.2.2.1
            rw [HFB.out] at h6
            first | (rw [← HB.out.2.2.2, h6, HD1.out]; simp; done) | (rw [← HB.out.2.2.2, h6]; simp; done) | (rw [← HB.out.2.2.2, h6, HD1.out]; done)
          · have h7 := HLR.out
            rw [List.length_append]; simp only [List.length_cons, List.length_nil]; omega

theorem esc_any (s tag : ByteArray) (w : World) (hT : Tabs w) (hs : s.size ≤ 4194304) (h1 : 1 ≤ tag.size) (h2 : tag.size ≤ 65536) (ht : Ascii tag) :
    Calls Tryd.prog 19 #[.string s, .string tag] w fun e w' => e = .returned (.string (S (esc tag.data.toList s.data.toList))) ∧ Below w.heap.size w w' := by
  rcases index_cases s lt with hi | ⟨i, hi, hio⟩
  · have hne : tag.toList.isEmpty = false := by
      rw [Lib.toList_data, List.isEmpty_eq_false_iff]
      intro e
      rw [Lib.size_eq, e] at h1
      exact absurd h1 (by decide)
    have HI := Lib.hid hi
    have he : esc tag.data.toList s.data.toList = s.data.toList := esc_none _ _ (by unfold Lib.indexB at hi; rw [show lt.data.toList = [60, 47] from rfl] at hi; omega)
    rw [he, S_L]
    clear hi he hT
    go_enter Tryd.func19, Tryd.ntmps19
    go_wp2_with (go_at_call 24; refine (index_no s lt _ (by omega) (by decide) (by decide) HI.out).mono ?_; rintro e w' ⟨rfl, rfl⟩)
    go_ret
    exact ⟨rfl, Below.refl _ _⟩
  · exact esc_some s tag w i hT hs h1 h2 ht hi hio

end Go.Proofs.YtalnapcphdmjaaaDoor
