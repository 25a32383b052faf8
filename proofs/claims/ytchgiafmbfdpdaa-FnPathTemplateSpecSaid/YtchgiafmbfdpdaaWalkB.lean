/-
  The walk of the law that tells a template's parts exactly; conditions: none (a template beyond the size guard answers at once).
-/
import Derived.Test.YtchgiafmbfdpdaaTok
namespace Go.Proofs.Ytchgiafmbfdpdaa
open Go.RowKit

set_option maxHeartbeats 400000 in
theorem zz8_small (s : ByteArray) (w : World) (hs : s.size ≤ 1048576) : Calls Try.prog 8 #[.string s] w fun e w' => e = .returned (.bool true) ∧ w = w' := by
  go_enter Try.func8, Try.ntmps8
  go_wp2
  go_ret
  exact ⟨rfl, rfl⟩
set_option maxHeartbeats 400000 in
theorem zz8_large (s : ByteArray) (w : World) (hs : 1048576 < s.size) : Calls Try.prog 8 #[.string s] w fun e w' => e = .returned (.bool false) ∧ w = w' := by
  go_enter Try.func8, Try.ntmps8
  go_wp2
  go_ret
  exact ⟨rfl, rfl⟩

/-- Has the last part a placeholder? -/
def lastB (ps : List (List UInt8 × Nat)) : Bool := match ps.getLast? with | some x => decide (x.2 ≠ 0) | none => false
theorem lastB_snoc (ps : List (List UInt8 × Nat)) (x : List UInt8 × Nat) : lastB (ps ++ [x]) = decide (x.2 ≠ 0) := by
  unfold lastB
  rw [List.getLast?_concat]
theorem render_take (ps : List (List UInt8 × Nat)) (k : Nat) (hk : k < ps.length) : render (ps.take (k + 1)) = render (ps.take k) ++ ps[k].1 ++ tok ps[k].2 := by
  unfold render
  rw [List.take_succ_eq_append_getElem hk, List.flatMap_append]
  simp only [List.flatMap_cons, List.flatMap_nil, List.append_nil, List.append_assoc]
theorem render_le (ps : List (List UInt8 × Nat)) (k : Nat) : (render (ps.take k)).length ≤ (render ps).length := by
  have e : render ps = render (ps.take k) ++ render (ps.drop k) := by
    unfold render
    rw [← List.flatMap_append, List.take_append_drop]
  rw [e, List.length_append]
  omega

theorem info5 : (Try.prog.info? 5).map (fun i => (i.zero, i.size, i.bytes)) = some (some (.int .u8 0), 1, 1) := by kernel_rfl

/-- The slice of a buffer: its length. -/
theorem Buf.form {B : Nat} {e : TypeId} {v : Value} {l : List UInt8} {W0 w : World} (h : Buf B e v l W0 w) : ∃ a c, v = .slice a l.length c := by
  rcases h.1.2 with ⟨rfl, h0⟩ | ⟨g, cap, cur, fz, rfl, _⟩
  · exact ⟨none, 0, by rw [h0]⟩
  · exact ⟨_, _, rfl⟩

theorem Row.drawn {w w' : World} {g n : Nat} {t : TypeId} {f : Nat → Value} (h : Row w g t n f) (hd : Drawn w w') : Row w' g t n f := by
  obtain ⟨k, rfl⟩ := hd
  exact h
theorem Drawn.below {w w' : World} (hd : Drawn w w') (B : Nat) : Below B w w' := by
  obtain ⟨n, rfl⟩ := hd
  exact ⟨rfl, rfl, rfl, Nat.le_refl _, fun _ _ => rfl⟩
theorem last_next (ps : List (List UInt8 × Nat)) (k : Nat) (hk : k < ps.length) (b : Bool) (hb : decide (ps[k].2 ≠ 0) = b) : b = lastB (ps.take (k + 1)) := by
  rw [List.take_succ_eq_append_getElem hk, lastB_snoc, hb]
theorem S_empty (l : List UInt8) : (S l).toList.isEmpty = l.isEmpty := by rw [S_toList]
theorem tok_zero {p : Nat} (h : p = 0) : tok p = [] := by subst h; rfl
theorem tok_pos {p : Nat} (h : p ≠ 0) (h4 : p ≤ 4) : (tok p).isEmpty = false := by
  have := tok_len (p := p) ⟨by omega, h4⟩
  cases hc : tok p with
  | nil => rw [hc] at this; simp at this
  | cons b r => rfl

set_option maxHeartbeats 2000000 in
set_option maxRecDepth 100000 in
theorem spec_some (s : ByteArray) (w : World) (h0 : s.toList.isEmpty = false) (hs : s.size ≤ 1048576) :
    Calls Try.prog 4 #[.string s] w fun e w' => e = .returned (.bool true) ∧ Below w.heap.size w w' := by
  have hnl := fun wx (a : Option Addr) (n c : Nat) => Lib.run_eql_slice_nil (P := Try.prog) wx 23 9 a n c 0 0 Try.underlying23
  have hd : decide ((1048576 : Int) < (s.size : Int)) = false := by simp; omega
  have hadd := run_add_S (P := Try.prog) ⟨#[46, 47]⟩ (S (slashed s.data.toList)) (by rw [S_size, slashed_length, ← Lib.size_eq]; show 2 + _ ≤ _; omega)
  rw [S_data] at hadd
  have e1 : (ByteArray.mk #[46, 47]).data.toList ++ slashed s.data.toList = tpl s.data.toList := rfl
  rw [e1] at hadd
  have htl : (tpl s.data.toList).length ≤ 1048578 := by
    unfold tpl
    rw [List.length_cons, List.length_cons, slashed_length, ← Lib.size_eq]
    omega
  have htl2 : 2 ≤ (tpl s.data.toList).length := by
    unfold tpl
    rw [List.length_cons, List.length_cons]
    omega
  have hlen : (parts (tpl s.data.toList)).length ≤ 1048578 := Nat.le_trans (split_length _ _ _) htl
  have HG := Lib.hid (parts_good (tpl s.data.toList) (by unfold tpl; simp))
  obtain ⟨i0, hi0, hz0, hz1, hz2⟩ := info_parts info5
  have HI := Lib.hid (And.intro hi0 (And.intro hz0 (And.intro hz1 hz2)))
  clear hi0 hz0 hz1 hz2 e1
  go_enter Try.func4, Try.ntmps4
  go_wp2_with fail
  refine (zz8_small s _ hs).mono ?_
  rintro e w' ⟨rfl, rfl⟩
  go_wp2_with fail
  refine (zz_some s _ h0 hs).mono ?_
  rintro e w1 ⟨b1, b2, rfl, l1, l2, r1, r2, hb1⟩
  go_wp2_with fail
  refine (slashed_any s _ hs).mono ?_
  rintro e w2 ⟨rfl, hb2⟩
  have r1' := r1.below hb2 r1.lt
  have r2' := r2.below hb2 r2.lt
  have hbb : Below w.heap.size w w2 := hb1.trans (hb2.mono hb1.size)
  clear r1 r2 hb1 hb2
  generalize parts (tpl s.data.toList) = ps at *
  generalize htp : tpl s.data.toList = tp at *
  have hts : (S tp).size = tp.length := S_size tp
  have hts1 : (S tp).size ≤ 1048578 := by omega
  have hts2 : 2 ≤ (S tp).size := by omega
  have HTS := Lib.hid hts
  clear htp hts
  go_wp2_with (at_make; refine wpList_make_own _ rfl _ _ 28 rfl w2.heap.size 5 i0 (.int .u8 0) 1 Try.underlying28 HI.out.1 HI.out.2.1 HI.out.2.2.1 _ _ _ (S tp).size rfl rfl (by omega) (by rw [HI.out.2.2.2]; omega) (by unfold maxLen; omega) (Nat.le_refl _) ?_; intro w3 hown hgrow)
  have hb := Buf.made hown hgrow (Below.refl _ _) (Nat.le_refl _)
  clear hown hgrow
  go_loopw [6, 7, 8] (fun v q i wr => ∃ (k : Nat) (m : List UInt8), k ≤ ps.length ∧ i = .int .i64 k ∧ Buf w2.heap.size 5 v m w2 wr ∧ m = render (ps.take k) ∧ q = .bool (lastB (ps.take k))) (fun _ _ i _ => ps.length - (intOf i).toNat)
  case atStart => exact ⟨0, [], Nat.zero_le _, rfl, hb, rfl, rfl⟩
  case round =>
    clear hb
    obtain ⟨k, m, hk, rfl, hb, hm, hq⟩ := hrel
    have HM := Lib.hid hm
    obtain ⟨rest, g1, g2, g3, g4, g5, g6⟩ := HG.out
    have hrl : (render ps).length ≤ tp.length := by rw [← g1, List.length_append]; omega
    have hml : m.length ≤ 1048578 := by rw [hm]; have := render_le ps k; omega
    have hq1 := r1'.below hb.below r1'.lt
    have hq2 := r2'.below hb.below r2'.lt
    clear hm
    by_cases hlt : k < ps.length
    · have hx := g3 ps[k] (List.getElem_mem hlt)
      have hgd : ps.getD k ([], 0) = ps[k] := by rw [List.getD_eq_getElem?_getD, List.getElem?_eq_getElem hlt]; rfl
      have c1 := hq1.cell hlt
      have c2 := hq2.cell hlt
      rw [hgd] at c1 c2
      have hrt := render_take ps k hlt
      have hle2 := render_le ps (k + 1)
      rw [hrt, List.length_append, List.length_append, ← HM.out] at hle2
      have h4 := g4 k ps[k] (List.getElem?_eq_getElem hlt)
      have HX := Lib.hid hx
      have HGD := Lib.hid hgd
      have HRT := Lib.hid hrt
      have H4 := Lib.hid h4
      have hx2 := hx.2
      have hl1 : (S ps[k].1).size = ps[k].1.length := S_size _
      have hl2 : (S (tok ps[k].2)).size = (tok ps[k].2).length := S_size _
      have hfit : m.length + (S ps[k].1).size + (S (tok ps[k].2)).size ≤ (S tp).size := by rw [HTS.out]; omega
      clear hx hgd hrt hle2 h4 hl1 hl2 g1 g2 g3 g4 g5 g6 hrl
      obtain ⟨va, vc, rfl⟩ := hb.form
      have HQ := Lib.hid hq
      clear hq
      by_cases hp0 : ps[k].2 = 0
      · obtain ⟨hkn, hdn⟩ := H4.out hp0
        have q1 : (S (tok ps[k].2)).toList.isEmpty = true := by rw [S_empty, tok_zero hp0]; rfl
        have q2 : ((k : Int) != (ps.length : Int) - 1) = false := by rw [bne_eq_false_iff_eq]; omega
        have q3 : (S ps[k].1).toList.isEmpty = false := by
          rw [S_empty]
          cases hc : ps[k].1 with
          | nil => exact absurd hc hdn
          | cons b r => rfl
        have HP0 := Lib.hid hp0
        clear hkn hdn hp0
        go_wp2_with (go_at_call 9; refine (tokenOf_any ps[k].2 _ hx2).mono ?_; rintro e w' ⟨rfl, rfl⟩)
        refine (hasToken_no (S ps[k].1) _ (by omega) (by rw [S_data]; exact HX.out.1)).mono ?_
        rintro e w4 ⟨rfl, hd4⟩
        have hb4 := hb.drawn hd4
        have c1' := (hq1.drawn hd4).cell hlt
        rw [HGD.out] at c1'
        clear hb c1 c2 hq1 hq2 hd4
        go_wp2_with (first | (at_builtin; refine buf_text rfl (.tmp 89) (.tmp 93) 28 9 rfl w2.heap.size 5 i0 Try.underlying28 Try.underlying9 HI.out.1 HI.out.2.1 HI.out.2.2.1 HI.out.2.2.2 _ m rfl w2 hb4 (S ps[k].1) rfl (by omega) ?_; intro v5 w5 hb5; clear hb4) | (at_builtin; refine buf_text rfl (.tmp 95) (.tmp 96) 28 9 rfl w2.heap.size 5 i0 Try.underlying28 Try.underlying9 HI.out.1 HI.out.2.1 HI.out.2.2.1 HI.out.2.2.2 _ _ rfl w2 hb5 (S (tok ps[k].2)) rfl (by rw [List.length_append, ← Lib.size_eq]; omega) ?_; intro v6 w6 hb6; clear hb5))
        refine ⟨⟨k + 1, _, by omega, by go_num, hb6, ?_, ?_⟩, by simp [intOf]; omega⟩
        · rw [S_data, S_data, HRT.out, HM.out]
        · exact congrArg Value.bool (last_next ps k hlt false (by rw [HP0.out]; rfl))
      · have q1 : (S (tok ps[k].2)).toList.isEmpty = false := by rw [S_empty]; exact tok_pos hp0 hx2
        have HP0 := Lib.hid hp0
        clear hp0
        go_wp2_with (go_at_call 9; refine (tokenOf_any ps[k].2 _ hx2).mono ?_; rintro e w' ⟨rfl, rfl⟩)
        refine (hasToken_no (S ps[k].1) _ (by omega) (by rw [S_data]; exact HX.out.1)).mono ?_
        rintro e w4 ⟨rfl, hd4⟩
        have hb4 := hb.drawn hd4
        have c1' := (hq1.drawn hd4).cell hlt
        rw [HGD.out] at c1'
        clear hb c1 c2 hq1 hq2 hd4
        go_wp2_with (first | (at_builtin; refine buf_text rfl (.tmp 89) (.tmp 93) 28 9 rfl w2.heap.size 5 i0 Try.underlying28 Try.underlying9 HI.out.1 HI.out.2.1 HI.out.2.2.1 HI.out.2.2.2 _ m rfl w2 hb4 (S ps[k].1) rfl (by omega) ?_; intro v5 w5 hb5; clear hb4) | (at_builtin; refine buf_text rfl (.tmp 95) (.tmp 96) 28 9 rfl w2.heap.size 5 i0 Try.underlying28 Try.underlying9 HI.out.1 HI.out.2.1 HI.out.2.2.1 HI.out.2.2.2 _ _ rfl w2 hb5 (S (tok ps[k].2)) rfl (by rw [List.length_append, ← Lib.size_eq]; omega) ?_; intro v6 w6 hb6; clear hb5))
        refine ⟨⟨k + 1, _, by omega, by go_num, hb6, ?_, ?_⟩, by simp [intOf]; omega⟩
        · rw [S_data, S_data, HRT.out, HM.out]
        · exact congrArg Value.bool (last_next ps k hlt true (by simpa using HP0.out))
    · have hkn : ps.take k = ps := List.take_of_length_le (by omega)
      have hfin : m = render ps := by rw [HM.out, hkn]
      rw [hkn] at hq
      clear HM hkn
      have ho : Lib.occAt (S tp).data.toList (S m).data.toList 0 = true := by
        unfold Lib.occAt
        rw [S_data, S_data, List.drop_zero, ← g1, hfin]
        simp
      have hml2 : m.length ≤ (S tp).size := by rw [HTS.out, hfin]; exact hrl
      have hrest : ((S tp).extract m.length (S tp).size) = S rest := by
        apply eq_S
        rw [Lib.extract_to_end, S_data, ← g1, hfin]
        simp
      have HRE := Lib.hid hrest
      have HO := Lib.hid ho
      have HFIN := Lib.hid hfin
      have hsm : (S m).size ≤ 1099511627776 := by rw [S_size]; omega
      have hrs : (S rest).size ≤ 1099511627776 := by
        rw [S_size]
        have := congrArg List.length g1
        rw [List.length_append] at this
        omega
      clear hrest ho hfin
      obtain ⟨va, vc, rfl⟩ := hb.form
      have hcv := hb.convert (P := Try.prog) 28 9 Try.underlying28 Try.underlying5 Try.underlying9
      go_wp2_with fail
      refine (prefixAt_val (S tp) (S m) 0 true _ (by omega) hsm (Nat.zero_le _) HO.out).mono ?_
      rintro e w4 ⟨rfl, hd4⟩
      clear hcv
      have hpos : (S tp).size - 1 < (S tp).size := by omega
      have hlastE : tp.getLast? = some ((S tp)[(S tp).size - 1]'hpos) := by
        have h1 := Lib.data_getElem? (S tp) ((S tp).size - 1) hpos
        rw [S_data] at h1
        rw [List.getLast?_eq_getElem?, ← h1, HTS.out]
      by_cases h91 : tp.getLast? = some 91
      · obtain ⟨e1, e2⟩ := g5 h91
        have q1 : (((S tp)[(S tp).size - 1]'hpos).toNat : Int) == 91 := by
          rw [hlastE] at h91
          rw [Option.some.inj h91]
          rfl
        have q2 : (S rest).toList.isEmpty = false := by
          rw [S_empty]
          cases hc : rest with
          | nil => exact absurd hc e1
          | cons b r => rfl
        have hq' : ps.length ≠ 0 → lastB ps = true := by
          intro hne
          unfold lastB
          cases hg : ps.getLast? with
          | none => rw [List.getLast?_eq_none_iff] at hg; subst hg; exact absurd rfl hne
          | some y => exact decide_eq_true (e2 y hg)
        by_cases hn0 : ps.length = 0
        · have q3 : ((ps.length : Int) == 0) = true := by rw [hn0]; rfl
          clear hlastE h91 e1 e2 hn0 g1 g3 g4 g5 g6 hq'
          subst hq
          go_wp2_with fail
          rw [HRE.out]
          refine (hasToken_no (S rest) _ hrs (by rw [S_data]; exact g2)).mono ?_
          rintro e w5 ⟨rfl, hd5⟩
          go_wp2_with fail
          go_ret
          exact ⟨rfl, ((hbb.trans (hb.below.mono hbb.size)).trans (hd4.below _)).trans (hd5.below _)⟩
        · have q3 : ((ps.length : Int) == 0) = false := by rw [beq_eq_false_iff_ne]; omega
          have q4 := hq' hn0
          rw [q4] at hq
          clear hlastE h91 e1 e2 hn0 g1 g3 g4 g5 g6 hq' q4
          subst hq
          go_wp2_with fail
          rw [HRE.out]
          refine (hasToken_no (S rest) _ hrs (by rw [S_data]; exact g2)).mono ?_
          rintro e w5 ⟨rfl, hd5⟩
          go_wp2_with fail
          go_ret
          exact ⟨rfl, ((hbb.trans (hb.below.mono hbb.size)).trans (hd4.below _)).trans (hd5.below _)⟩
      · have e1 := g6 h91
        have q1 : ((((S tp)[(S tp).size - 1]'hpos).toNat : Int) == 91) = false := by
          rw [beq_eq_false_iff_ne]
          intro e
          apply h91
          rw [hlastE]
          congr 1
          apply UInt8.toNat_inj.1
          show _ = 91
          omega
        have q2 : (S rest).toList.isEmpty = true := by rw [S_empty, e1]; rfl
        clear hlastE h91 e1 g1 g3 g4 g5 g6
        subst hq
        go_wp2_with fail
        rw [HRE.out]
        refine (hasToken_no (S rest) _ hrs (by rw [S_data]; exact g2)).mono ?_
        rintro e w5 ⟨rfl, hd5⟩
        go_wp2_with fail
        go_ret
        exact ⟨rfl, ((hbb.trans (hb.below.mono hbb.size)).trans (hd4.below _)).trans (hd5.below _)⟩

theorem fnPathTemplateSpec_walk (s : ByteArray) (w : World) (_hs : s.size ≤ maxLen) :
    Calls Try.prog 4 #[.string s] w fun e w' => e = .returned (.bool true) ∧ Below w.heap.size w w' := by
  unfold maxLen at _hs
  by_cases hs : s.size ≤ 1048576
  · cases h0 : s.toList.isEmpty with
    | false => exact spec_some s w h0 hs
    | true =>
      have hnl := fun wx (a : Option Addr) (n c : Nat) => Lib.run_eql_slice_nil (P := Try.prog) wx 23 9 a n c 0 0 Try.underlying23
      go_enter Try.func4, Try.ntmps4
      go_wp2_with fail
      refine (zz8_small s _ hs).mono ?_
      rintro e w' ⟨rfl, rfl⟩
      go_wp2_with fail
      refine (zz_none s _ h0).mono ?_
      rintro e w' ⟨rfl, rfl⟩
      go_wp2_with fail
      go_ret
      exact ⟨rfl, Below.refl _ _⟩
  · go_enter Try.func4, Try.ntmps4
    go_wp2_with fail
    refine (zz8_large s _ (by omega)).mono ?_
    rintro e w' ⟨rfl, rfl⟩
    go_wp2_with fail
    go_ret
    exact ⟨rfl, Below.refl _ _⟩

end Go.Proofs.Ytchgiafmbfdpdaa
