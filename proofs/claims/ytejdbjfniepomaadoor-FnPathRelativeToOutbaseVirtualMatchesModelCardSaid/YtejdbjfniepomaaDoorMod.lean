/-
  The contracts of the sanitizer's model (zzFlushRun, zzSanitizeModel); conditions: the sizes that they name.
-/
import Derived.Test.YtejdbjfniepomaaDoorOutw
namespace Go.Proofs.YtejdbjfniepomaaDoor
open Go.RowKit

theorem encode_is (n : Nat) (hv : Valid (n : Int)) : (Utf8.encode (n : Int)).data.toList = Lib.encodeRune (n : Int) := by
  obtain ⟨_, h1, h2⟩ := hv
  have hval : Utf8.valid (n : Int) = true := by simp [Utf8.valid]; omega
  unfold Utf8.encode
  simp only [hval, if_true, Int.toNat_natCast]
  unfold Lib.encodeRune
  by_cases c1 : n < 128
  · rw [if_pos (by omega), Lib.encodeRuneZ_one (by omega) (by omega)]
    rfl
  rw [if_neg (by omega)]
  by_cases c2 : n < 2048
  · rw [if_pos (by omega), Lib.encodeRuneZ_two (by omega) (by omega)]
    rfl
  rw [if_neg (by omega)]
  by_cases c3 : n < 65536
  · rw [if_pos (by omega), Lib.encodeRuneZ_three (by omega)]
    rfl
  · rw [if_neg (by omega), Lib.encodeRuneZ_four (by omega) (by omega)]
    rfl

def EB (rs : List Int) : List UInt8 := rs.flatMap Lib.encodeRune
theorem EB_nil {rs : List Int} : EB rs = [] ↔ rs = [] := by
  constructor
  · intro h
    cases rs with
    | nil => rfl
    | cons x t =>
      unfold EB at h
      rw [List.flatMap_cons] at h
      exact absurd (List.append_eq_nil_iff.1 h).1 (encode_ne x)
  · rintro rfl
    rfl
theorem EB_append (a b : List Int) : EB (a ++ b) = EB a ++ EB b := by simp [EB]
theorem EB_one (r : Int) : EB [r] = Lib.encodeRune r := by simp [EB]
def flushB (out run : List UInt8) : List UInt8 := if run = [] then out else if out = [] then run else out ++ 95 :: run
theorem EB_flush (o r : List Int) : EB (flushR o r) = flushB (EB o) (EB r) := by
  unfold flushR flushB
  by_cases h1 : r = []
  · rw [if_pos h1, if_pos (EB_nil.2 h1)]
  · rw [if_neg h1, if_neg fun e => h1 (EB_nil.1 e)]
    by_cases h2 : o = []
    · rw [if_pos h2, if_pos (EB_nil.2 h2)]
    · rw [if_neg h2, if_neg fun e => h2 (EB_nil.1 e), EB_append]
      rfl
theorem flush_len (o r : List UInt8) : (flushB o r).length ≤ o.length + r.length + 1 := by
  unfold flushB
  split
  · omega
  · split
    · omega
    · rw [List.length_append, List.length_cons]; omega

def FlushEnd (B : Nat) (l : List UInt8) (w : World) (e : Ending) (w' : World) : Prop :=
  ∃ v', e = .returned v' ∧ w'.ownsRow B 5 1 v' l.length (bc l) ∧ Below B w w'

theorem bc_one (l : List UInt8) : ∀ u ∈ bc l, u.oneCell' = true := by
  intro u hu
  unfold bc at hu
  obtain ⟨b, _, rfl⟩ := List.mem_map.1 hu
  rfl

theorem apart_of {a b : Value} (h : ∀ g, a.ownBlock = some g → b.ownBlock ≠ some g) : a.ownBlock = none ∨ a.ownBlock ≠ b.ownBlock := by
  cases e : a.ownBlock with
  | none => exact .inl rfl
  | some g => exact .inr fun h2 => h g e h2.symm

set_option maxHeartbeats 4000000 in
set_option maxRecDepth 100000 in
theorem flush_any (B : Nat) (vo vr : Value) (out run : List UInt8) (w : World) (ho : w.ownsRow B 5 1 vo out.length (bc out)) (hr : ∃ Br, w.ownsRow Br 5 1 vr run.length (bc run)) (hne : ∀ g, vo.ownBlock = some g → vr.ownBlock ≠ some g) (hB : B ≤ w.heap.size)
    (hl : out.length + run.length + 1 ≤ 140737488355328) : Calls Tryd.prog 14 #[vo, vr] w (FlushEnd B (flushB out run) w) := by
  obtain ⟨Br, hr⟩ := hr
  obtain ⟨i0, hi, hz0, hz1, hz2⟩ := info_parts bld_byte
  have HI := Lib.hid (And.intro hi (And.intro hz0 (And.intro hz1 hz2)))
  clear hi hz0 hz1 hz2
  by_cases h1 : run = []
  · obtain ⟨ao, cap, rfl⟩ := slice_of_owns hr
    have hf : flushB out run = out := by unfold flushB; rw [if_pos h1]
    rw [hf]
    subst h1
    have HO := Lib.hid ho
    clear hr ho hf hne
    go_enter Tryd.func14, Tryd.ntmps14
    go_wp2_with fail
    go_ret
    exact ⟨_, rfl, HO.out, Below.refl _ _⟩
  · have hrl : 0 < run.length := List.length_pos_iff.2 h1
    have hc := fun g (h : vr.ownBlock = some g) => (World.ownsRowF_of hr).cells h
    obtain ⟨gr, capr, rfl⟩ : ∃ g cap, vr = .slice (some ⟨g, 0, none⟩) run.length cap := by
      rcases hr.2 with ⟨_, h0⟩ | ⟨g, cap, cur, rfl, _⟩
      · omega
      · exact ⟨g, cap, rfl⟩
    have hc := hc gr rfl
    have q1 : ((run.length : Int) == 0) = false := by rw [beq_eq_false_iff_ne]; omega
    by_cases h2 : out = []
    · obtain ⟨ao, cap, rfl⟩ := slice_of_owns ho
      have hf : flushB out run = run := by unfold flushB; rw [if_neg h1, if_pos h2]
      rw [hf]
      subst h2
      have HO := Lib.hid (And.intro ho hc)
      clear hr ho hf hne hc h1
      go_enter Tryd.func14, Tryd.ntmps14
      go_wp2_with (at_builtin; refine wpList_append_own _ rfl (.tmp 15) (.tmp 16) 110 rfl B 5 i0 (.int .u8 0) 1 1 Tryd.underlying110 HI.out.1 HI.out.2.1 HI.out.2.2.1 HI.out.2.2.2 rfl (by decide) _ _ _ rfl HO.out.1 ⟨gr, 0, none⟩ run.length capr (bc run) rfl (by rw [bc_length, Nat.mul_one]) HO.out.2 (bc_one run) ?a3 ?a4 hB ?_)
      case a3 => unfold maxLen; simp; omega
      case a4 => simp; omega
      intro v' w2 hown' hgrow _
      have HG := Lib.hid (And.intro hown' hgrow)
      clear hown' hgrow
      go_wp2_with fail
      go_ret
      refine ⟨_, rfl, ?_, (Below.refl _ _).grown HG.out.2 (by omega) (fun k hk => (HO.out.1.lt k hk).1)⟩
      have := HG.out.1
      simpa [bc] using this
    · have hol : 0 < out.length := List.length_pos_iff.2 h2
      have hf : flushB out run = out ++ [95] ++ run := by unfold flushB; rw [if_neg h1, if_neg h2]; simp
      rw [hf]
      have q2 : decide (0 < out.length) = true := decide_eq_true hol
      obtain ⟨ao, cap, rfl⟩ := slice_of_owns ho
      have HO := Lib.hid (And.intro ho (And.intro hr hne))
      clear hr ho hf hne hc h1 h2
      go_enter Tryd.func14, Tryd.ntmps14
      go_wp2_with (at_builtin; refine wpList_append_own _ rfl (.tmp 12) (.tmp 13) 110 rfl B 5 i0 (.int .u8 0) 1 1 Tryd.underlying110 HI.out.1 HI.out.2.1 HI.out.2.2.1 HI.out.2.2.2 rfl (by decide) _ _ _ rfl (HO.out.1.alloc _) ⟨w.heap.size, 0, none⟩ 1 1 [.int .u8 95] rfl rfl ?a1 ?a2 ?a3 ?a4 ?a5 ?_)
      case a1 =>
        intro j u hj
        have hj0 : j = 0 := by have := (List.getElem?_eq_some_iff.1 hj).1; simp at this; omega
        subst hj0
        injection hj with hj
        subst hj
        simp [Addr.add]
      case a2 => intro u hu; rw [List.mem_singleton] at hu; subst hu; rfl
      case a3 => unfold maxLen; omega
      case a4 => omega
      case a5 => simp; omega
      intro v1 w1 hown1 hgrow1 _
      have hown1' : w1.ownsRow B 5 1 v1 (out.length + 1) (bc (out ++ [95])) := by
        rw [bc_append]
        exact hown1
      have hb1 : Below B w w1 := ((Below.refl B w).alloc hB _).grown hgrow1 (by simp; omega) (fun k hk => (HO.out.1.lt k hk).1)
      have hr1 := (HO.out.2.1.alloc (.cells #[.int .u8 95] 5)).kept hgrow1 (.inr fun e => HO.out.2.2 gr (by rw [← e]; rfl) rfl)
      have hc1 := (World.ownsRowF_of hr1).cells (g := gr) rfl
      have hsz1 := hb1.size
      obtain ⟨ao1, cap1, rfl⟩ := slice_of_owns hown1'
      have H1 := Lib.hid (And.intro hown1' (And.intro hb1 hc1))
      clear hown1 hown1' hgrow1 hb1 hr1 hc1
      go_wp2_with (at_builtin; refine wpList_append_own _ rfl (.tmp 15) (.tmp 16) 110 rfl B 5 i0 (.int .u8 0) 1 1 Tryd.underlying110 HI.out.1 HI.out.2.1 HI.out.2.2.1 HI.out.2.2.2 rfl (by decide) _ _ _ rfl H1.out.1 ⟨gr, 0, none⟩ run.length capr (bc run) rfl (by rw [bc_length, Nat.mul_one]) H1.out.2.2 (bc_one run) ?b3 ?b4 (by omega) ?_)
      case b3 => unfold maxLen; simp; omega
      case b4 => simp; omega
      intro v' w2 hown' hgrow _
      have HG := Lib.hid (And.intro hown' hgrow)
      clear hown' hgrow
      go_wp2_with fail
      go_ret
      refine ⟨_, rfl, ?_, H1.out.2.1.grown HG.out.2 (by omega) (fun k hk => (H1.out.1.lt k hk).1)⟩
      rw [bc_append, List.length_append, List.length_append]
      exact HG.out.1

/-- The model's state. -/
def ModRel (s : ByteArray) (w : World) (gk : Nat) (vo vr : Value) (wx : World) : Prop :=
  ∃ (pos Br : Nat) (o r : List Int), wx.ownsRow (w.heap.size + 1) 5 1 vo (EB o).length (bc (EB o)) ∧ wx.ownsRow Br 5 1 vr (EB r).length (bc (EB r)) ∧ (∀ g, vo.ownBlock = some g → g < Br) ∧ w.heap.size + 1 ≤ Br ∧ Br ≤ wx.heap.size ∧
    wx.heap[w.heap.size]? = some (.stringIter s pos) ∧ Below w.heap.size w wx ∧ s.size ≤ pos + gk ∧ pos ≤ s.size ∧ (EB o).length + (EB r).length ≤ 5 * pos ∧ modR o r (runesL (s.data.toList.drop pos)) = modR [] [] (runesL s.data.toList)

theorem owns_iter {B : Nat} {v : Value} {n : Nat} {xs : List Value} {w : World} (h : w.ownsRow B 5 1 v n xs) {k : Nat} {s : ByteArray} {pos : Nat} (hk : w.heap[k]? = some (.stringIter s pos)) (pos' : Nat) : (w.iterAt k s pos').ownsRow B 5 1 v n xs := by
  refine ⟨h.1, ?_⟩
  rcases h.2 with hn | ⟨g, cap, cur, hv, hbg, hg, rest⟩
  · exact .inl hn
  · have hkg : g ≠ k := by
      intro e1
      rw [e1, hk] at hg
      cases hg
    exact .inr ⟨g, cap, cur, hv, hbg, (Lib.iterAt_other w k g s pos' hkg).trans hg, rest⟩
theorem mod_ans (l : List UInt8) : san l = if EB (modR [] [] (runesL l)) = [] then [95] else EB (modR [] [] (runesL l)) := by
  rw [model_san]
  exact san_ans l

set_option maxHeartbeats 8000000 in
set_option maxRecDepth 100000 in
theorem model_any (s : ByteArray) (w : World) (hs : s.size ≤ 4194304) : Calls Tryd.prog 8 #[.string s] w fun e w' => e = .returned (.string (S (san s.data.toList))) ∧ Below w.heap.size w w' := by
  have HLEN := Lib.hid (show s.data.toList.length = s.size from (Lib.size_eq s).symm)
  obtain ⟨i0, hi, hz0, hz1, hz2⟩ := info_parts bld_byte
  have HI := Lib.hid (And.intro hi (And.intro hz0 (And.intro hz1 hz2)))
  clear hi hz0 hz1 hz2
  go_enter Tryd.func8, Tryd.ntmps8
  go_wp2_with fail
  go_loopg [3, 4] s.size (fun gk s3 s4 wx => ModRel s w gk s3 s4 wx)
  case atStart =>
    exact ⟨0, w.heap.size + 1, [], [], World.ownsRow_nil _ _ _ _, World.ownsRow_nil _ _ _ _, (fun g h => by cases h), Nat.le_refl _, by simp [World.iter], by simpa using World.iter_heap w s 0, iter_below _ s 0, by omega, by omega, by simp [EB], by simp⟩
  case round =>
    obtain ⟨pos, Br, o, r, hvo, hvr, hlt1, hBr, hBr2, hit, hbw, hfu, hps, hll, hans⟩ := hrel
    by_cases hlt : pos < s.size
    · obtain ⟨g', rfl⟩ : ∃ g', gk = g' + 1 := ⟨gk - 1, by omega⟩
      have hnx : ∀ ty, (Instr.next (.pointer (some ⟨w.heap.size, 0, none⟩)) true ty).run Tryd.prog wr = _ := fun ty => Lib.run_next_any_at wr w.heap.size s pos ty hit hlt
      have hne : s.data.toList.drop pos ≠ [] := by
        intro h0
        have := congrArg List.length h0
        rw [List.length_drop, HLEN.out] at this
        simp at this
        omega
      have hwd := Lib.width_pos s pos
      have hwn : pos + (Utf8.decode s pos).2 ≤ s.size := by
        have := Lib.decodeL_le _ hne
        rw [Lib.decodeL_drop, List.length_drop, HLEN.out] at this
        omega
      have hval := decode_valid (s.data.toList.drop pos)
      have hstep := runesL_step _ hne
      rw [Lib.decodeL_drop] at hstep hval
      rw [List.drop_drop] at hstep
      rw [hstep] at hans
      have hit2 := Lib.iterAt_heap wr w.heap.size s pos (pos + (Utf8.decode s pos).2) hit
      have hbw2 := Lib.below_iterAt hbw (k := w.heap.size) (Nat.le_refl _) s (pos + (Utf8.decode s pos).2)
      have hvo2 := owns_iter hvo hit (pos + (Utf8.decode s pos).2)
      have hvr2 := owns_iter hvr hit (pos + (Utf8.decode s pos).2)
      have hsz2 := Lib.iterAt_size wr w.heap.size s (pos + (Utf8.decode s pos).2)
      obtain ⟨R, hR⟩ : ∃ R, (Utf8.decode s pos).1 = R := ⟨_, rfl⟩
      obtain ⟨K, hK⟩ : ∃ K, (Utf8.decode s pos).2 = K := ⟨_, rfl⟩
      rw [hR] at hnx hans hval
      rw [hK] at hnx hans hit2 hbw2 hvo2 hvr2 hsz2 hwd hwn
      obtain ⟨W, hWd⟩ : ∃ W, wr.iterAt w.heap.size s (pos + K) = W := ⟨_, rfl⟩
      rw [hWd] at hnx hit2 hbw2 hvo2 hvr2 hsz2
      rw [← hsz2] at hBr2
      have hneB : ∀ g, u3.ownBlock = some g → u4.ownBlock ≠ some g := fun g hg h => by have := (hvr2.lt g h).1; have := hlt1 g hg; omega
      have HW := Lib.hid (And.intro hit2 (And.intro hbw2 (And.intro hvo2 (And.intro hvr2 (And.intro hlt1 hneB)))))
      have HA := Lib.hid (And.intro hans hval)
      clear hit hbw hvo hvr hlt1 hne hstep hans hval hit2 hbw2 hvo2 hvr2 hsz2 hR hK hWd hneB
      cases hbad : badR (R : Int)
      · have hf := fun wx => forb_no (R : Int) wx hbad
        have henc := encode_is R HA.out.2
        have hensz : (Utf8.encode (R : Int)).size = (Lib.encodeRune (R : Int)).length := by rw [Lib.size_eq, henc]
        have hl4 := enc_len (R : Int)
        have HE := Lib.hid (And.intro henc (And.intro hensz hbad))
        have hbnd : (EB r).length + (Utf8.encode (R : Int)).size ≤ 140737488355328 := by rw [hensz]; omega
        have HBN := Lib.hid hbnd
        clear henc hensz hbad hbnd
        go_wp2_with (first | (go_at_call 10; refine (hf _).mono ?_; rintro e w' ⟨rfl, rfl⟩) | (at_builtin; refine Lib.wpList_append_own_string _ rfl (.tmp 17) (.tmp 19) 110 9 rfl Br 5 i0 Tryd.underlying110 Tryd.underlying9 HI.out.1 HI.out.2.1 HI.out.2.2.1 HI.out.2.2.2 _ _ _ rfl HW.out.2.2.2.1 (Utf8.encode (R : Int)) rfl (by have := HBN.out; unfold maxLen; omega) HBN.out hBr2 ?_; intro v' w2 hown' hgrow _))
        have HG := Lib.hid (And.intro hown' hgrow)
        clear hown' hgrow
        go_wp2_with fail
        go_roundg g'
        case measure => omega
        case rel =>
          refine ⟨pos + K, Br, o, r ++ [(R : Int)], HW.out.2.2.1.kept HG.out.2 (apart_of HW.out.2.2.2.2.2), ?_, HW.out.2.2.2.2.1, hBr, Nat.le_trans hBr2 HG.out.2.size, ?_, ?_, by omega, hwn, ?_, ?_⟩
          · rw [EB_append, EB_one, bc_append, List.length_append, ← HE.out.2.1]
            have := HG.out.1
            unfold Lib.strCells at this
            rw [HE.out.1] at this
            exact this
          · rw [HG.out.2.block w.heap.size (by omega) (fun h => by have := (HW.out.2.2.2.1.lt _ h.symm).1; omega)]
            exact HW.out.1
          · exact HW.out.2.1.grown HG.out.2 (by omega) (fun k hk => by have := (HW.out.2.2.2.1.lt k hk).1; omega)
          · rw [EB_append, EB_one, List.length_append]
            omega
          · rw [← HA.out.1, modR, if_neg (by rw [HE.out.2.2]; decide)]
      · have hf := fun wx => forb_yes (R : Int) wx hbad
        have hfl := flush_len (EB o) (EB r)
        have hfc := flush_any (w.heap.size + 1) u3 u4 (EB o) (EB r) W HW.out.2.2.1 ⟨Br, HW.out.2.2.2.1⟩ HW.out.2.2.2.2.2 (by omega) (by omega)
        rw [← EB_flush] at hfl hfc
        have HF := Lib.hid (And.intro hfc hbad)
        clear hfc hbad
        go_wp2_with (go_at_call 10; refine (hf _).mono ?_; rintro e w' ⟨rfl, rfl⟩)
        refine HF.out.1.mono ?_
        rintro e w2 ⟨v', rfl, hown', hb'⟩
        have HG := Lib.hid (And.intro hown' hb')
        clear hown' hb'
        go_wp2_with fail
        go_roundg g'
        case measure => omega
        case rel =>
          refine ⟨pos + K, w2.heap.size, flushR o r, [], HG.out.1, World.ownsRow_nil _ _ _ _, fun g hg => (HG.out.1.lt g hg).2, by have := HG.out.2.size; omega, Nat.le_refl _, (HG.out.2.block w.heap.size (by omega)).trans HW.out.1, HW.out.2.1.trans (HG.out.2.mono (by omega)), by omega, hwn, ?_, ?_⟩
          · show _ + 0 ≤ _
            omega
          · rw [← HA.out.1, modR, if_pos HF.out.2]
    · obtain rfl : pos = s.size := by omega
      have hnx : ∀ ty, (Instr.next (.pointer (some ⟨w.heap.size, 0, none⟩)) true ty).run Tryd.prog wr = _ := fun ty => Lib.run_next_end_at wr w.heap.size s s.size ty hit (by omega)
      rw [List.drop_of_length_le (by rw [HLEN.out]; exact Nat.le_refl _), runesL_nil, modR] at hans
      have hfc := flush_any (w.heap.size + 1) u3 u4 (EB o) (EB r) wr hvo ⟨Br, hvr⟩ (fun g hg h => by have := (hvr.lt g h).1; have := hlt1 g hg; omega) (by omega) (by omega)
      rw [← EB_flush, hans] at hfc
      have HF := Lib.hid (And.intro hfc hbw)
      have HS := Lib.hid (mod_ans s.data.toList)
      clear hfc hbw hvo hvr hlt1 hit hans
      go_wp2_with fail
      refine HF.out.1.mono ?_
      rintro e w2 ⟨v', rfl, hown', hb'⟩
      have hbb := HF.out.2.trans (hb'.mono (by omega))
      have hbuf : Buf (w.heap.size + 1) 5 v' (EB (modR [] [] (runesL s.data.toList))) wr w2 := ⟨World.ownsRowF_of hown', hb', by have := hb'.size; omega⟩
      have hcv := hbuf.convert (P := Tryd.prog) 110 9 Tryd.underlying110 Tryd.underlying5 Tryd.underlying9
      obtain ⟨ao, cap, rfl⟩ := slice_of_owns hown'
      obtain ⟨L, hL⟩ : ∃ L, EB (modR [] [] (runesL s.data.toList)) = L := ⟨_, rfl⟩
      rw [hL] at hcv
      have HS2 := Lib.hid (show san s.data.toList = if L = [] then [95] else L by rw [← hL]; exact HS.out)
      have HB := Lib.hid hbb
      have hLl : (EB (modR [] [] (runesL s.data.toList))).length = L.length := by rw [hL]
      rw [hLl]
      clear hbuf hown' hb' hbb hLl hL
      by_cases h0 : L = []
      · have hz : ((L.length : Int) == 0) = true := by rw [h0]; rfl
        have HZ := Lib.hid h0
        clear h0
        go_wp2_with fail
        go_ret
        exact ⟨by rw [HS2.out, if_pos HZ.out]; rfl, HB.out⟩
      · have hz : ((L.length : Int) == 0) = false := by rw [beq_eq_false_iff_ne]; have := List.length_pos_iff.2 h0; omega
        have HZ := Lib.hid h0
        clear h0
        go_wp2_with fail
        go_ret
        exact ⟨by rw [HS2.out, if_neg HZ.out]; rfl, HB.out⟩

end Go.Proofs.YtejdbjfniepomaaDoor
