/-
  The contract of PlatformIndependentPathDirBaseExt: three texts no longer than the path; the base is the last segment cut at its last dot, where the model speaks; conditions: what the listed tables hold, the size.
-/
import Derived.Test.YtejdbjfniepomaaDoorSeg
import Derived.Test.YtejdbjfniepomaaDoorLia
namespace Go.Proofs.YtejdbjfniepomaaDoor
open Go.RowKit

def PipEnd (s : ByteArray) (w : World) (e : Ending) (w' : World) : Prop :=
  (∃ d b x : ByteArray, e = .returned (.tuple #[.string d, .string b, .string x]) ∧ d.size ≤ s.size ∧ b.size ≤ s.size ∧ (Cov s.data.toList → b = S (stemL s.data.toList))) ∧ Below w.heap.size w w'
/-- Behind the loop. -/
def PipCut (s : ByteArray) (w : World) (s2 s3 : Value) (wx : World) : Prop :=
  ∃ d b : ByteArray, s2 = .string d ∧ s3 = .string b ∧ d.size ≤ s.size ∧ b.size ≤ s.size ∧ (Cov s.data.toList → b.data.toList = segL s.data.toList) ∧ Below w.heap.size w wx
def lenOf : Value → Nat
  | .string s => s.size
  | _ => 0

theorem from_size (s : ByteArray) (i : Nat) : (s.extract i s.size).data.toList = s.data.toList.drop i := by
  rw [extract_S, S_data, List.take_of_length_le (by rw [List.length_drop, ← Lib.size_eq]; exact Nat.le_refl _)]
theorem upto_sz (s : ByteArray) (i : Nat) : (s.extract 0 i).size ≤ s.size := by rw [Lib.size_eq, take_size, List.length_take, ← Lib.size_eq]; omega
theorem from_sz (s : ByteArray) (i : Nat) : (s.extract i s.size).size ≤ s.size := by rw [Lib.size_eq, from_size, List.length_drop, ← Lib.size_eq]; omega
theorem below_drawn {B : Nat} {w w' : World} (h : Below B w w') (n : Nat) : Below B w (w'.drewN n) := h.trans ⟨rfl, rfl, rfl, Nat.le_refl _, fun _ _ => rfl⟩

set_option maxHeartbeats 8000000 in
set_option maxRecDepth 100000 in
theorem pip_any (s : ByteArray) (w : World) (hT : Tabs w) (hs : s.size ≤ 4194304) : Calls Tryd.prog 16 #[.string s] w (PipEnd s w) := by
  have HT := Lib.hid hT
  clear hT
  have hla := lia_any
  unfold CH at hla
  have HL := Lib.hid hla
  clear hla
  go_enter Tryd.func16, Tryd.ntmps16
  go_upto_region 2 with fail
  go_cut [22] (fun s22 wx => ∃ z, s22 = .bool z ∧ wx = w)
  case first =>
    by_cases h0 : s.size = 0
    · go_wp2_with fail
      go_meet
      exact ⟨_, rfl, rfl⟩
    · have h1 : (0 : Int) < (s.size : Int) := by omega
      have h2 : 0 < s.size := by omega
      go_wp2_with fail
      all_goals (go_meet; exact ⟨_, rfl, rfl⟩)
  case rest =>
    obtain ⟨z, rfl, rfl⟩ := hcut
    go_upto_if 22 with fail
    go_cut [5] (fun s5 wx => ∃ a : Int, s5 = .int .i64 a ∧ wx = wc)
    case first =>
      cases z
      · by_cases h0 : 2 < s.size
        · have h1 : (2 : Int) < (s.size : Int) := by omega
          have h2 : 1 < s.size := by omega
          have h3 : 0 < s.size := by omega
          go_wp2_with fail
          all_goals (go_meet; exact ⟨_, rfl, rfl⟩)
        · go_wp2_with fail
          all_goals (go_meet; exact ⟨_, rfl, rfl⟩)
      · go_wp2_with fail
        go_meet
        exact ⟨_, rfl, rfl⟩
    case rest =>
      obtain ⟨a, rfl, rfl⟩ := hcut
      go_upto_block 0 with fail
      go_cut [2, 3] (fun s2 s3 wx => PipCut s wc s2 s3 wx)
      case first =>
        go_wp2_with fail
        go_loopw [0, 2] (fun s0 s2 wx => ∃ t : ByteArray, s0 = .string t ∧ s2 = .string ⟨#[]⟩ ∧ t.size ≤ s.size ∧ (t = s ∨ ¬ Cov s.data.toList) ∧ Below wc.heap.size wc wx) (fun s0 _ _ => lenOf s0)
        case atStart => exact ⟨s, rfl, rfl, Nat.le_refl _, .inl rfl, Below.refl _ _⟩
        case round =>
          obtain ⟨t, rfl, rfl, ht, hts, hb⟩ := hrel
          have HI := Lib.hid (And.intro hts hb)
          clear hts hb
          go_wp2_with fail
          refine (HL.out t _ (HT.out.up HI.out.2) (by omega)).mono ?_
          rintro e w1 ⟨⟨r, rfl, hl⟩, hb1⟩
          have hbb := HI.out.2.trans (hb1.mono HI.out.2.size)
          have HB := Lib.hid hbb
          clear hbb hb1
          rcases hl with ⟨rfl, hno⟩ | ⟨k, c, rfl, hc, hsep, hno⟩
          · have hn := seg_none hno
            clear hno
            have HN := Lib.hid hn
            clear hn
            go_wp2_with fail
            go_meet
            refine ⟨⟨#[]⟩, t, ?_, ?_, (Nat.zero_le _ : 0 ≤ s.size), ht, fun hcov => ?_, HB.out⟩
            · rfl
            · rfl
            rcases HI.out.1 with rfl | h
            · exact HN.out.symm
            · exact absurd hcov h
          · have hk := (List.getElem?_eq_some_iff.1 hc).1
            rw [← Lib.size_eq] at hk
            have hseg := seg_at hc hsep hno
            have hlast := fun h => last_sep hc hsep h
            have H := Lib.hid (And.intro hseg hlast)
            clear hseg hlast hc hno hsep
            have t1 : (0 : Int) ≤ (k : Int) := by omega
            have t2 : (k : Int) ≤ (t.size : Int) := by omega
            have t3 : (k : Int) + 1 ≤ (t.size : Int) := by omega
            have t4 : (0 : Int) ≤ (k : Int) + 1 := by omega
            have t5 : ¬ ((k : Int) < 0) := by omega
            by_cases hka : (k : Int) = a
            · have t6 : ((k : Int) == a) = true := beq_iff_eq.2 hka
              clear hka
              go_wp2_with fail
              go_quiet (fail)
              go_wp2_with fail
              go_meet
              refine ⟨_, _, rfl, rfl, Nat.le_trans (upto_sz _ _) ht, Nat.le_trans (from_sz _ _) ht, fun hcov => ?_, below_drawn HB.out _⟩
              rcases HI.out.1 with rfl | h
              · rw [from_size]
                exact H.out.1.symm
              · exact absurd hcov h
            · have t6 : ((k : Int) == a) = false := beq_eq_false_iff_ne.2 hka
              clear hka
              by_cases hkl : k + 1 = t.size
              · have t7 : ((k : Int) + 1 != (t.size : Int)) = false := by simp; omega
                go_wp2_with fail
                refine ⟨⟨_, rfl, rfl, Nat.le_trans (upto_sz _ _) ht, .inr ?_, HB.out⟩, ?_⟩
                · rcases HI.out.1 with rfl | h
                  · exact H.out.2 (by rw [← Lib.size_eq]; exact hkl)
                  · exact h
                · show (t.extract 0 k).size < t.size
                  rw [Lib.size_eq, take_size, List.length_take, ← Lib.size_eq]
                  omega
              · have t7 : ((k : Int) + 1 != (t.size : Int)) = true := by simp; omega
                clear hkl
                go_wp2_with fail
                go_quiet (fail)
                go_wp2_with fail
                go_meet
                refine ⟨_, _, rfl, rfl, Nat.le_trans (upto_sz _ _) ht, Nat.le_trans (from_sz _ _) ht, fun hcov => ?_, below_drawn HB.out _⟩
                rcases HI.out.1 with rfl | h
                · rw [from_size]
                  exact H.out.1.symm
                · exact absurd hcov h
      case rest =>
        obtain ⟨w0, rfl⟩ : ∃ w0 : World, w0 = wc := ⟨_, rfl⟩
        obtain ⟨d, b, rfl, rfl, hd, hb, hcov, hbel⟩ := hcut
        have HC := Lib.hid (And.intro hcov hbel)
        have HD := Lib.hid (And.intro hd hb)
        clear hcov hbel
        have hl1 := fun wx => Tryd.strings_LastIndexByte b 46 (by omega) wx
        rcases dot_spec b with ⟨e1, e2⟩ | ⟨k, e1, hk, e2, e3⟩
        · rw [e1] at hl1
          have HN := Lib.hid e2
          clear e1 e2
          go_wp2_with (go_at_call 26; refine (hl1 _).mono ?_; rintro e w' ⟨rfl, rfl⟩)
          go_ret3
          exact ⟨⟨d, b, _, rfl, hd, hb, fun h => eq_S (stem_none (HC.out.1 h) HN.out)⟩, HC.out.2⟩
        · rw [e1] at hl1
          have HN := Lib.hid (And.intro e2 e3)
          clear e1 e2 e3
          have t1 : (0 : Int) ≤ (k : Int) := by omega
          have t2 : (k : Int) ≤ (b.size : Int) := by omega
          have hst : Cov s.data.toList → b.extract 0 k = S (stemL s.data.toList) := fun h => eq_S (by rw [take_size]; exact stem_some (HC.out.1 h) HN.out.1 HN.out.2)
          have HST := Lib.hid hst
          clear hst
          cases hE : ((b.extract k b.size).toList == [46, 99, 115, 115])
          · go_wp2_with (go_at_call 26; refine (hl1 _).mono ?_; rintro e w' ⟨rfl, rfl⟩)
            go_ret3
            exact ⟨⟨d, _, _, rfl, hd, Nat.le_trans (upto_sz _ _) hb, HST.out⟩, HC.out.2⟩
          · have hl2 := fun wx => Tryd.strings_LastIndexByte (b.extract 0 k) 46 (by have := upto_sz b k; omega) wx
            have hks : (b.extract 0 k).size = k := by rw [Lib.size_eq, take_size, List.length_take, ← Lib.size_eq]; omega
            rcases dot_spec (b.extract 0 k) with ⟨e1, e2⟩ | ⟨k2, e1, hk2, e2, e3⟩
            · rw [e1] at hl2
              clear e1 e2 hks
              go_wp2_with (first | (go_at_call 26; refine (hl1 _).mono ?_; rintro e w' ⟨rfl, rfl⟩) | (go_at_call 26; refine (hl2 _).mono ?_; rintro e w' ⟨rfl, rfl⟩))
              go_ret3
              exact ⟨⟨d, _, _, rfl, hd, Nat.le_trans (upto_sz _ _) hb, HST.out⟩, HC.out.2⟩
            · rw [e1] at hl2
              rw [hks] at hk2
              have u1 : (0 : Int) ≤ (k2 : Int) := by omega
              have u2 : (k2 : Int) ≤ (b.size : Int) := by omega
              clear e1 e2 e3 hks
              cases hE2 : ((b.extract k2 b.size).toList == [46, 109, 111, 100, 117, 108, 101, 46, 99, 115, 115])
              · go_wp2_with (first | (go_at_call 26; refine (hl1 _).mono ?_; rintro e w' ⟨rfl, rfl⟩) | (go_at_call 26; refine (hl2 _).mono ?_; rintro e w' ⟨rfl, rfl⟩))
                go_ret3
                exact ⟨⟨d, _, _, rfl, hd, Nat.le_trans (upto_sz _ _) hb, HST.out⟩, HC.out.2⟩
              · have hmod : b.data.toList.drop k2 = MODCSS := by
                  rw [Lib.toList_data, from_size] at hE2
                  exact beq_iff_eq.1 hE2
                have HM := Lib.hid hmod
                clear hmod
                go_wp2_with (first | (go_at_call 26; refine (hl1 _).mono ?_; rintro e w' ⟨rfl, rfl⟩) | (go_at_call 26; refine (hl2 _).mono ?_; rintro e w' ⟨rfl, rfl⟩))
                go_ret3
                refine ⟨⟨d, _, _, rfl, hd, Nat.le_trans (upto_sz _ _) hb, fun h => ?_⟩, HC.out.2⟩
                exact absurd ⟨b.data.toList.take k2, by rw [← HC.out.1 h, ← HM.out, List.take_append_drop]⟩ h.2

end Go.Proofs.YtejdbjfniepomaaDoor
