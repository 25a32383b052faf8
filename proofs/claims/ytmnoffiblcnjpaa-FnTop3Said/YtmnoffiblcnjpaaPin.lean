/-
  sort.partialInsertionSort over the elements: the row holds what the plain function says; conditions: those that each lemma names.
-/
import Derived.Test.YtmnoffiblcnjpaaPeq
import Derived.Sort.WalkA6
namespace Go.Proofs.Ytmnoffiblcnjpaa
open Go.RowKit Go.Sort

def PinPost (w0 : World) (g N a b : Nat) (d : Array El) (w : World) (e : Ending) (w' : World) : Prop := ∃ fl : Bool, e = .returned (.bool fl) ∧ R w0 g N (partialInsertionSort ltE d a b).1 w' ∧ Up w0 w w' ∧ (partialInsertionSort ltE d a b).2 = fl
set_option maxHeartbeats 8000000 in
set_option maxRecDepth 100000 in
theorem pin_any {w0 w : World} {g N : Nat} {d : Array El} (h : R w0 g N d w) (hN : N ≤ 65536) (a b : Nat) (hab : a < b) (hb : b ≤ N) :
    Calls Try.prog 29 #[dv g N, .int .i64 a, .int .i64 b] w (PinPost w0 g N a b d w) := by
  have H := Lib.hid h
  have mL := meth_less g N
  have mS := meth_swap g N
  clear h
  go_enter Try.func29, Try.ntmps29
  go_wp2_with fail
  go_loopw [7, 8] (fun s7 s8 wr => ∃ (s i : Nat) (dk : Array El), s7 = .int .i64 i ∧ s8 = .int .i64 (5 - (s : Int)) ∧ s ≤ 5 ∧ a < i ∧ i ≤ b ∧ R w0 g N dk wr ∧ Up w0 w wr ∧ partialIns ltE a b s i dk = partialIns ltE a b 5 (a + 1) d) (fun _ s8 _ => 5 - (intOf s8).toNat)
  case atStart => exact ⟨5, a + 1, d, by go_num, rfl, Nat.le_refl _, by omega, by omega, H.out, Up.refl _ _, rfl⟩
  case round =>
    obtain ⟨s, i0, dk, rfl, rfl, hs5, hai0, hib0, hR, hU, hE⟩ := hrel
    have HK := Lib.hid (And.intro hR (And.intro hU hE))
    clear hR hU hE
    cases s with
    | zero =>
      go_wp2_with fail
      go_ret
      have he := HK.out.2.2
      refine ⟨false, rfl, ?_, HK.out.2.1, ?_⟩
      · rw [partialInsertionSort, ← he]; exact HK.out.1
      · rw [partialInsertionSort, ← he]; rfl
    | succ s =>
      have hz : (5 : Int) - ((s + 1 : Nat) : Int) = 4 - (s : Int) := by omega
      rw [hz]
      clear hz
      have hs4 : decide ((4 : Int) - (s : Int) < 5) = true := by rw [decide_eq_true_eq]; omega
      go_wp2_with fail
      obtain ⟨wo, rfl⟩ : ∃ wo : World, wo = wr := ⟨_, rfl⟩
      go_loopw [7] (fun s7 wr => ∃ i : Nat, s7 = .int .i64 i ∧ a < i ∧ i ≤ b ∧ R w0 g N dk wr ∧ Up w0 w wr ∧ scanSorted ltE dk b i = scanSorted ltE dk b i0) (fun s7 _ => b - (intOf s7).toNat)
      case atStart => exact ⟨i0, rfl, hai0, hib0, HK.out.1, HK.out.2.1, rfl⟩
      case round =>
        obtain ⟨i, rfl, hai, hib, hR, hU, hE⟩ := hrel
        have HL := Lib.hid (And.intro hR (And.intro hU hE))
        clear hR hU hE
        by_cases hlt : i < b
        · cases hLv : ltE dk[i]! dk[i - 1]! with
          | false =>
            have HE := Lib.hid hLv
            clear hLv
            go_wp2_with fail
            refine (less_at HL.out.1 i (i - 1) HE.out (by omega) (by omega) rfl (by omega)).mono ?_
            rintro e w2 ⟨rfl, hR2, hU2⟩
            go_wp2_with fail
            go_roundw
            case rel => exact ⟨i + 1, by go_num, by omega, by omega, hR2, HL.out.2.1.trans hU2, by rw [← HL.out.2.2, scanSorted_go ltE dk b i hlt HE.out]⟩
            case measure => simp [intOf]; omega
          | true =>
            have HE := Lib.hid hLv
            have hsc : scanSorted ltE dk b i0 = i := by rw [← HL.out.2.2, scanSorted_stop ltE dk b i (Or.inr hLv)]
            have hpi := HK.out.2.2
            rw [partialIns_succ, hsc, if_neg (by omega)] at hpi
            have HPI := Lib.hid hpi
            clear hLv hsc hpi
            go_wp2_with fail
            refine (less_at HL.out.1 i (i - 1) HE.out (by omega) (by omega) rfl (by omega)).mono ?_
            rintro e w2 ⟨rfl, hR2, hU2⟩
            have H2 := Lib.hid (And.intro hR2 (HL.out.2.1.trans hU2))
            clear hR2 hU2
            have hneb : ¬ (i : Int) = (b : Int) := by omega
            by_cases h50 : b - a < 50
            · have h50' : (b : Int) - (a : Int) < 50 := by omega
              go_wp2_with fail
              go_ret
              have he := HPI.out
              rw [if_pos h50] at he
              refine ⟨false, rfl, ?_, H2.out.2, ?_⟩
              · rw [partialInsertionSort, ← he]; exact H2.out.1
              · rw [partialInsertionSort, ← he]
            · have h50' : ¬ (b : Int) - (a : Int) < 50 := by omega
              have hpi := HPI.out
              rw [if_neg h50] at hpi
              have HP2 := Lib.hid hpi
              clear hpi
              go_wp2_with fail
              refine (swap_at H2.out.1 i (i - 1) (by omega) (by omega) rfl (by omega)).mono ?_
              rintro e w3 ⟨rfl, hR3, hU3⟩
              have H3 := Lib.hid (And.intro hR3 (H2.out.2.trans hU3))
              clear hR3 hU3
              obtain ⟨d1, hd1⟩ : ∃ x, swp dk i (i - 1) = x := ⟨_, rfl⟩
              rw [hd1] at H3 HP2
              clear hd1
              by_cases hi2 : 2 ≤ i - a
              · have hi2' : (2 : Int) ≤ (i : Int) - (a : Int) := by omega
                go_wp2_with fail
                go_loopw [9] (fun s9 wr => ∃ (j : Nat) (dj : Array El), s9 = .int .i64 j ∧ j ≤ i - 1 ∧ R w0 g N dj wr ∧ Up w0 w wr ∧ shiftDown ltE j dj = shiftDown ltE (i - 1) d1) (fun s9 _ => (intOf s9).toNat)
                case atStart => exact ⟨i - 1, d1, by congr 1 <;> omega, Nat.le_refl _, H3.out.1, H3.out.2, rfl⟩
                case round =>
                  obtain ⟨j, dj, rfl, hji, hR, hU, hE⟩ := hrel
                  have HJ := Lib.hid (And.intro hR (And.intro hU hE))
                  clear hR hU hE
                  by_cases hj1 : 1 ≤ j
                  · cases hLj : ltE dj[j]! dj[j - 1]! with
                    | true =>
                      have HEj := Lib.hid hLj
                      clear hLj
                      go_wp2_with fail
                      refine (less_at HJ.out.1 j (j - 1) HEj.out (by omega) (by omega) rfl (by omega)).mono ?_
                      rintro e w4 ⟨rfl, hR4, hU4⟩
                      have H4 := Lib.hid (And.intro hR4 (HJ.out.2.1.trans hU4))
                      clear hR4 hU4
                      go_wp2_with fail
                      refine (swap_at H4.out.1 j (j - 1) (by omega) (by omega) rfl (by omega)).mono ?_
                      rintro e w5 ⟨rfl, hR5, hU5⟩
                      go_wp2_with fail
                      go_roundw
                      case rel => exact ⟨j - 1, _, by congr 1 <;> omega, by omega, hR5, H4.out.2.trans hU5, by rw [← HJ.out.2.2, shiftDown_go ltE j dj hj1 HEj.out]⟩
                      case measure => simp [intOf]; omega
                    | false =>
                      have hfx : fixDown ltE a i d1 = dj := by
                        unfold fixDown
                        rw [if_pos hi2, ← HJ.out.2.2, shiftDown_stop ltE j dj (Or.inr hLj)]
                      have HEj := Lib.hid hLj
                      have hp4 := HP2.out
                      rw [hfx] at hp4
                      have HP4 := Lib.hid hp4
                      clear hLj hfx hp4
                      go_wp2_with fail
                      refine (less_at HJ.out.1 j (j - 1) HEj.out (by omega) (by omega) rfl (by omega)).mono ?_
                      rintro e w4 ⟨rfl, hR4, hU4⟩
                      have H6 := Lib.hid (And.intro hR4 (HJ.out.2.1.trans hU4))
                      clear hR4 hU4
                      by_cases hb2 : 2 ≤ b - i
                      · have hb2' : (2 : Int) ≤ (b : Int) - (i : Int) := by omega
                        go_wp2_with fail
                        go_loopw [10] (fun s10 wr => ∃ (t : Nat) (dt : Array El), s10 = .int .i64 t ∧ i + 1 ≤ t ∧ t ≤ b ∧ R w0 g N dt wr ∧ Up w0 w wr ∧ shiftUp ltE b t dt = shiftUp ltE b (i + 1) dj) (fun s10 _ => b - (intOf s10).toNat)
                        case atStart => exact ⟨i + 1, dj, by go_num, Nat.le_refl _, by omega, H6.out.1, H6.out.2, rfl⟩
                        case round =>
                          obtain ⟨t, dt, rfl, hti, htb, hR, hU, hE⟩ := hrel
                          have HT := Lib.hid (And.intro hR (And.intro hU hE))
                          clear hR hU hE
                          by_cases ht1 : t < b
                          · cases hLt : ltE dt[t]! dt[t - 1]! with
                            | true =>
                              have HEt := Lib.hid hLt
                              clear hLt
                              go_wp2_with fail
                              refine (less_at HT.out.1 t (t - 1) HEt.out (by omega) (by omega) rfl (by omega)).mono ?_
                              rintro e w7 ⟨rfl, hR7, hU7⟩
                              have H7 := Lib.hid (And.intro hR7 (HT.out.2.1.trans hU7))
                              clear hR7 hU7
                              go_wp2_with fail
                              refine (swap_at H7.out.1 t (t - 1) (by omega) (by omega) rfl (by omega)).mono ?_
                              rintro e w8 ⟨rfl, hR8, hU8⟩
                              go_wp2_with fail
                              go_roundw
                              case rel => exact ⟨t + 1, _, by go_num, by omega, by omega, hR8, H7.out.2.trans hU8, by rw [← HT.out.2.2, shiftUp_go ltE b t dt ht1 HEt.out]⟩
                              case measure => simp [intOf]; omega
                            | false =>
                              have hfu : fixUp ltE b i dj = dt := by
                                unfold fixUp
                                rw [if_pos hb2, ← HT.out.2.2, shiftUp_stop ltE b t dt (Or.inr hLt)]
                              have HEt := Lib.hid hLt
                              have hp8 := HP4.out
                              rw [hfu] at hp8
                              have HP8 := Lib.hid hp8
                              clear hLt hfu hp8
                              go_wp2_with fail
                              refine (less_at HT.out.1 t (t - 1) HEt.out (by omega) (by omega) rfl (by omega)).mono ?_
                              rintro e w7 ⟨rfl, hR7, hU7⟩
                              have H8 := Lib.hid (And.intro hR7 (HT.out.2.1.trans hU7))
                              clear hR7 hU7
                              go_wp2_with fail
                              go_roundw
                              case rel => exact ⟨s, i, dt, rfl, by congr 1 <;> omega, by omega, hai, hib, H8.out.1, H8.out.2, HP8.out⟩
                              case measure => simp [intOf]; omega
                          · have hfu : fixUp ltE b i dj = dt := by
                              unfold fixUp
                              rw [if_pos hb2, ← HT.out.2.2, shiftUp_stop ltE b t dt (Or.inl ht1)]
                            have hp8 := HP4.out
                            rw [hfu] at hp8
                            have HP8 := Lib.hid hp8
                            clear hfu hp8
                            go_wp2_with fail
                            go_roundw
                            case rel => exact ⟨s, i, dt, rfl, by congr 1 <;> omega, by omega, hai, hib, HT.out.1, HT.out.2.1, HP8.out⟩
                            case measure => simp [intOf]; omega
                      · have hb2' : ¬ (2 : Int) ≤ (b : Int) - (i : Int) := by omega
                        have hfu : fixUp ltE b i dj = dj := by
                          unfold fixUp
                          rw [if_neg (by omega)]
                        have hp8 := HP4.out
                        rw [hfu] at hp8
                        have HP8 := Lib.hid hp8
                        clear hfu hp8
                        go_wp2_with fail
                        go_roundw
                        case rel => exact ⟨s, i, dj, rfl, by congr 1 <;> omega, by omega, hai, hib, H6.out.1, H6.out.2, HP8.out⟩
                        case measure => simp [intOf]; omega
                  · have hfx : fixDown ltE a i d1 = dj := by
                      unfold fixDown
                      rw [if_pos hi2, ← HJ.out.2.2, shiftDown_stop ltE j dj (Or.inl (by omega))]
                    have hp4 := HP2.out
                    rw [hfx] at hp4
                    have HP4 := Lib.hid hp4
                    have H6 := Lib.hid (And.intro HJ.out.1 HJ.out.2.1)
                    clear hfx hp4
                    by_cases hb2 : 2 ≤ b - i
                    · have hb2' : (2 : Int) ≤ (b : Int) - (i : Int) := by omega
                      go_wp2_with fail
                      go_loopw [10] (fun s10 wr => ∃ (t : Nat) (dt : Array El), s10 = .int .i64 t ∧ i + 1 ≤ t ∧ t ≤ b ∧ R w0 g N dt wr ∧ Up w0 w wr ∧ shiftUp ltE b t dt = shiftUp ltE b (i + 1) dj) (fun s10 _ => b - (intOf s10).toNat)
                      case atStart => exact ⟨i + 1, dj, by go_num, Nat.le_refl _, by omega, H6.out.1, H6.out.2, rfl⟩
                      case round =>
                        obtain ⟨t, dt, rfl, hti, htb, hR, hU, hE⟩ := hrel
                        have HT := Lib.hid (And.intro hR (And.intro hU hE))
                        clear hR hU hE
                        by_cases ht1 : t < b
                        · cases hLt : ltE dt[t]! dt[t - 1]! with
                          | true =>
                            have HEt := Lib.hid hLt
                            clear hLt
                            go_wp2_with fail
                            refine (less_at HT.out.1 t (t - 1) HEt.out (by omega) (by omega) rfl (by omega)).mono ?_
                            rintro e w7 ⟨rfl, hR7, hU7⟩
                            have H7 := Lib.hid (And.intro hR7 (HT.out.2.1.trans hU7))
                            clear hR7 hU7
                            go_wp2_with fail
                            refine (swap_at H7.out.1 t (t - 1) (by omega) (by omega) rfl (by omega)).mono ?_
                            rintro e w8 ⟨rfl, hR8, hU8⟩
                            go_wp2_with fail
                            go_roundw
                            case rel => exact ⟨t + 1, _, by go_num, by omega, by omega, hR8, H7.out.2.trans hU8, by rw [← HT.out.2.2, shiftUp_go ltE b t dt ht1 HEt.out]⟩
                            case measure => simp [intOf]; omega
                          | false =>
                            have hfu : fixUp ltE b i dj = dt := by
                              unfold fixUp
                              rw [if_pos hb2, ← HT.out.2.2, shiftUp_stop ltE b t dt (Or.inr hLt)]
                            have HEt := Lib.hid hLt
                            have hp8 := HP4.out
                            rw [hfu] at hp8
                            have HP8 := Lib.hid hp8
                            clear hLt hfu hp8
                            go_wp2_with fail
                            refine (less_at HT.out.1 t (t - 1) HEt.out (by omega) (by omega) rfl (by omega)).mono ?_
                            rintro e w7 ⟨rfl, hR7, hU7⟩
                            have H8 := Lib.hid (And.intro hR7 (HT.out.2.1.trans hU7))
                            clear hR7 hU7
                            go_wp2_with fail
                            go_roundw
                            case rel => exact ⟨s, i, dt, rfl, by congr 1 <;> omega, by omega, hai, hib, H8.out.1, H8.out.2, HP8.out⟩
                            case measure => simp [intOf]; omega
                        · have hfu : fixUp ltE b i dj = dt := by
                            unfold fixUp
                            rw [if_pos hb2, ← HT.out.2.2, shiftUp_stop ltE b t dt (Or.inl ht1)]
                          have hp8 := HP4.out
                          rw [hfu] at hp8
                          have HP8 := Lib.hid hp8
                          clear hfu hp8
                          go_wp2_with fail
                          go_roundw
                          case rel => exact ⟨s, i, dt, rfl, by congr 1 <;> omega, by omega, hai, hib, HT.out.1, HT.out.2.1, HP8.out⟩
                          case measure => simp [intOf]; omega
                    · have hb2' : ¬ (2 : Int) ≤ (b : Int) - (i : Int) := by omega
                      have hfu : fixUp ltE b i dj = dj := by
                        unfold fixUp
                        rw [if_neg (by omega)]
                      have hp8 := HP4.out
                      rw [hfu] at hp8
                      have HP8 := Lib.hid hp8
                      clear hfu hp8
                      go_wp2_with fail
                      go_roundw
                      case rel => exact ⟨s, i, dj, rfl, by congr 1 <;> omega, by omega, hai, hib, H6.out.1, H6.out.2, HP8.out⟩
                      case measure => simp [intOf]; omega
              · have hi2' : ¬ (2 : Int) ≤ (i : Int) - (a : Int) := by omega
                have hfx : fixDown ltE a i d1 = d1 := by
                  unfold fixDown
                  rw [if_neg (by omega)]
                have hp4 := HP2.out
                rw [hfx] at hp4
                have HP4 := Lib.hid hp4
                have H6 := Lib.hid (And.intro H3.out.1 H3.out.2)
                clear hfx hp4
                by_cases hb2 : 2 ≤ b - i
                · have hb2' : (2 : Int) ≤ (b : Int) - (i : Int) := by omega
                  go_wp2_with fail
                  go_loopw [10] (fun s10 wr => ∃ (t : Nat) (dt : Array El), s10 = .int .i64 t ∧ i + 1 ≤ t ∧ t ≤ b ∧ R w0 g N dt wr ∧ Up w0 w wr ∧ shiftUp ltE b t dt = shiftUp ltE b (i + 1) d1) (fun s10 _ => b - (intOf s10).toNat)
                  case atStart => exact ⟨i + 1, d1, by go_num, Nat.le_refl _, by omega, H6.out.1, H6.out.2, rfl⟩
                  case round =>
                    obtain ⟨t, dt, rfl, hti, htb, hR, hU, hE⟩ := hrel
                    have HT := Lib.hid (And.intro hR (And.intro hU hE))
                    clear hR hU hE
                    by_cases ht1 : t < b
                    · cases hLt : ltE dt[t]! dt[t - 1]! with
                      | true =>
                        have HEt := Lib.hid hLt
                        clear hLt
                        go_wp2_with fail
                        refine (less_at HT.out.1 t (t - 1) HEt.out (by omega) (by omega) rfl (by omega)).mono ?_
                        rintro e w7 ⟨rfl, hR7, hU7⟩
                        have H7 := Lib.hid (And.intro hR7 (HT.out.2.1.trans hU7))
                        clear hR7 hU7
                        go_wp2_with fail
                        refine (swap_at H7.out.1 t (t - 1) (by omega) (by omega) rfl (by omega)).mono ?_
                        rintro e w8 ⟨rfl, hR8, hU8⟩
                        go_wp2_with fail
                        go_roundw
                        case rel => exact ⟨t + 1, _, by go_num, by omega, by omega, hR8, H7.out.2.trans hU8, by rw [← HT.out.2.2, shiftUp_go ltE b t dt ht1 HEt.out]⟩
                        case measure => simp [intOf]; omega
                      | false =>
                        have hfu : fixUp ltE b i d1 = dt := by
                          unfold fixUp
                          rw [if_pos hb2, ← HT.out.2.2, shiftUp_stop ltE b t dt (Or.inr hLt)]
                        have HEt := Lib.hid hLt
                        have hp8 := HP4.out
                        rw [hfu] at hp8
                        have HP8 := Lib.hid hp8
                        clear hLt hfu hp8
                        go_wp2_with fail
                        refine (less_at HT.out.1 t (t - 1) HEt.out (by omega) (by omega) rfl (by omega)).mono ?_
                        rintro e w7 ⟨rfl, hR7, hU7⟩
                        have H8 := Lib.hid (And.intro hR7 (HT.out.2.1.trans hU7))
                        clear hR7 hU7
                        go_wp2_with fail
                        go_roundw
                        case rel => exact ⟨s, i, dt, rfl, by congr 1 <;> omega, by omega, hai, hib, H8.out.1, H8.out.2, HP8.out⟩
                        case measure => simp [intOf]; omega
                    · have hfu : fixUp ltE b i d1 = dt := by
                        unfold fixUp
                        rw [if_pos hb2, ← HT.out.2.2, shiftUp_stop ltE b t dt (Or.inl ht1)]
                      have hp8 := HP4.out
                      rw [hfu] at hp8
                      have HP8 := Lib.hid hp8
                      clear hfu hp8
                      go_wp2_with fail
                      go_roundw
                      case rel => exact ⟨s, i, dt, rfl, by congr 1 <;> omega, by omega, hai, hib, HT.out.1, HT.out.2.1, HP8.out⟩
                      case measure => simp [intOf]; omega
                · exfalso
                  omega
        · obtain rfl : i = b := by omega
          have hsc : scanSorted ltE dk i i0 = i := by rw [← HL.out.2.2, scanSorted_stop ltE dk i i (Or.inl hlt)]
          have hpi := HK.out.2.2
          rw [partialIns_succ, hsc, if_pos rfl] at hpi
          have HPI := Lib.hid hpi
          clear hsc hpi
          go_wp2_with fail
          go_ret
          have he := HPI.out
          refine ⟨true, rfl, ?_, HL.out.2.1, ?_⟩
          · rw [partialInsertionSort, ← he]; exact HL.out.1
          · rw [partialInsertionSort, ← he]
end Go.Proofs.Ytmnoffiblcnjpaa
