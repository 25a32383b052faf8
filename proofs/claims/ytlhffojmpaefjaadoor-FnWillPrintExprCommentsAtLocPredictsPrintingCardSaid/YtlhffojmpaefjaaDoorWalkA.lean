/-
  The walk of the law 'willPrintExprCommentsAtLoc predicts printExprCommentsAtLoc'; conditions: the arguments' rows.
-/
import Derived.Test.YtlhffojmpaefjaaDoorCln
namespace Go.Proofs.YtlhffojmpaefjaaDoor
open Go.RowKit

theorem bP_same {P : DataW Unit} {x : Int} (hP : Go.Maps.IsMap P) (hx : (Lit.int .i32 x).wf = true) : bP (P.put (kx x) (.lit (.bool true))) x = true := by
  unfold bP
  obtain ⟨kl, hkl⟩ : ∃ kl, kx x = kl := ⟨_, rfl⟩
  have hk := kx_lit hx hkl
  rw [hkl, Go.Maps.atKey_put_same hP hk]
  rfl
theorem bP_other {P : DataW Unit} {x y : Int} (hx : (Lit.int .i32 x).wf = true) (hy : (Lit.int .i32 y).wf = true) (h : x ≠ y) : bP (P.put (kx x) (.lit (.bool true))) y = bP P y := by
  unfold bP
  rw [Go.Maps.atKey_put_other (kx_ne hy hx (fun e => h e.symm))]
theorem wl_same {mw : Bool} {C P : DataW Unit} {x : Int} (hP : Go.Maps.IsMap P) (hx : (Lit.int .i32 x).wf = true) : wl mw C (P.put (kx x) (.lit (.bool true))) x = false := by
  unfold wl
  rw [bP_same hP hx]
  simp
theorem wl_other {mw : Bool} {C P : DataW Unit} {x y : Int} (hx : (Lit.int .i32 x).wf = true) (hy : (Lit.int .i32 y).wf = true) (h : x ≠ y) : wl mw C (P.put (kx x) (.lit (.bool true))) y = wl mw C P y := by
  unfold wl
  rw [bP_other hx hy h]
theorem MP.isMap {w : World} {b n : Nat} {C : DataW Unit} (h : MP w b n C) : Go.Maps.IsMap C := by
  obtain ⟨es, clock, _, _, _, hD⟩ := h
  exact ⟨_, hD⟩

def R1 (B g m1 m2 : Nat) (mw : Bool) (len : Nat) (s12 : Value) (wr : World) : Prop := ∃ k : Nat, k ≤ len ∧ s12 = .int .i64 k ∧ B ≤ wr.heap.size ∧ ∃ C, ST B g m1 m2 mw [] C (.map []) k 0 wr
def R2 (B g m1 m2 : Nat) (mw : Bool) (C : DataW Unit) (nc len : Nat) (s13 : Value) (wr : World) : Prop := ∃ k : Nat, k ≤ len ∧ s13 = .int .i64 k ∧ B ≤ wr.heap.size ∧ ∃ P, ST B g m1 m2 mw [] C P nc k wr

set_option maxHeartbeats 4000000 in
set_option maxRecDepth 100000 in
theorem fnWillPrintExprCommentsAtLocPredictsPrinting_walk (a0 : Option Addr) (len0 cap0 : Nat) (z0 : List Int) (a1 : Option Addr) (len1 cap1 : Nat) (z1 : List Int) (a2 a3 : Int) (a4 : Bool) (w : World) (w0 : InRow w a0 len0 cap0 (z0.map (Value.int .i32))) (ww0 : ∀ n ∈ z0, (Lit.int .i32 n).wf = true) (w1 : InRow w a1 len1 cap1 (z1.map (Value.int .i32))) (ww1 : ∀ n ∈ z1, (Lit.int .i32 n).wf = true) (w2 : (Lit.int .i32 a2).wf = true) (w3 : (Lit.int .i32 a3).wf = true) (_hT : True) :
    Calls Tryd.prog 3 #[.slice a0 len0 cap0, .slice a1 len1 cap1, .int .i32 a2, .int .i32 a3, .bool a4] w fun e w' => e = .returned (.bool true) ∧ Below w.heap.size w w' := by
  have hc0 := w0.cap
  have hc1 := w1.cap
  have hm0 : len0 ≤ maxLen := Nat.le_trans hc0.1 hc0.2
  have hm1 : len1 ≤ maxLen := Nat.le_trans hc1.1 hc1.2
  have H0 := Lib.hid (And.intro w0 (And.intro w1 (And.intro ww0 (And.intro ww1 (And.intro w2 w3)))))
  have HM := Lib.hid (And.intro hm0 hm1)
  unfold maxLen at hm0 hm1
  clear w0 w1 ww0 ww1 w2 w3 hc0 hc1
  go_enter Tryd.func3, Tryd.ntmps3
  go_wp2_with fail
  refine (bytes4_any a0 a1 len0 cap0 len1 cap1 a2 a3 a4 w HM.out.1 HM.out.2).mono ?_
  rintro e w' ⟨b, rfl, rfl, _⟩
  cases b
  · go_wp2_with fail
    go_ret
    exact ⟨rfl, Below.refl _ _⟩
  by_cases hs : len0 ≤ 262144 ∧ len1 ≤ 262144 ∧ len0 + len1 ≤ 262144
  case neg =>
    go_wp2_with fail
    all_goals
      go_ret
      exact ⟨rfl, Below.refl _ _⟩
  case pos =>
    by_cases hne : a2 = a3
    · go_wp2_with fail
      go_ret
      exact ⟨rfl, Below.refl _ _⟩
    · obtain ⟨hs0, hs1, hs2⟩ := hs
      go_wp2_with fail
      refine (clone32 a0 len0 cap0 z0 w H0.out.1 (by omega)).mono ?_
      rintro e wa ⟨A, c, rfl, hra, hba⟩
      have HA := Lib.hid (And.intro hra hba)
      clear hra hba
      go_wp2_with fail
      refine (clone32 a1 len1 cap1 z1 wa (H0.out.2.1.up HA.out.2) (by omega)).mono ?_
      rintro e wb ⟨A', c', rfl, hrb, hbb⟩
      have HB := Lib.hid (And.intro hrb (And.intro (HA.out.1.up hbb) (HA.out.2.trans (hbb.mono HA.out.2.size))))
      clear hrb hbb
      go_wp2_with fail
      refine (new_any a4 wb).mono ?_
      rintro e wc ⟨g, m1, m2, rfl, hst, hbc⟩
      have HC := Lib.hid (And.intro hst hbc)
      have hcs := hbc.size
      clear hst hbc
      have HWA := Lib.hid hcs
      clear hcs
      go_wp2_with fail
      go_loopw [12] (fun s12 wr => R1 wb.heap.size g m1 m2 a4 len0 s12 wr ∧ Below wb.heap.size wb wr) (fun s12 _ => len0 - (intOf s12).toNat)
      case atStart => exact ⟨⟨0, Nat.zero_le _, rfl, HWA.out, _, HC.out.1⟩, HC.out.2⟩
      case round =>
        obtain ⟨⟨k, hk, rfl, hBr, C, hst⟩, hbr⟩ := hrel
        have HR := Lib.hid (And.intro hst (And.intro hbr hBr))
        clear hst hbr hBr
        by_cases hlt : k < len0
        · obtain ⟨x, u, rfl, hu, hc⟩ := (HB.out.2.1.up HR.out.2.1).get hlt
          have hw := H0.out.2.2.1 u (List.mem_of_getElem? hu)
          have HW := Lib.hid hw
          clear hu hw
          go_wp2_with fail
          refine (add_any wb.heap.size g m1 m2 a4 [] C (.map []) k 0 u wr HW.out HR.out.1 HR.out.2.2 (by omega)).mono ?_
          rintro e w5 ⟨rfl, hst5, hb5⟩
          have H5 := Lib.hid (And.intro hst5 (And.intro hb5.size (HR.out.2.1.trans hb5)))
          clear hst5 hb5
          go_wp2_with fail
          go_roundw
          case rel => exact ⟨⟨k + 1, by omega, by go_num, Nat.le_trans HR.out.2.2 H5.out.2.1, _, H5.out.1⟩, H5.out.2.2⟩
          case measure => simp [intOf]; omega
        · obtain rfl : k = len0 := by omega
          obtain ⟨wo, rfl⟩ : ∃ wo : World, wo = wr := ⟨_, rfl⟩
          go_wp2_with fail
          go_loopw [13] (fun s13 wr => R2 wb.heap.size g m1 m2 a4 C k len1 s13 wr ∧ Below wb.heap.size wb wr) (fun s13 _ => len1 - (intOf s13).toNat)
          case atStart => exact ⟨⟨0, Nat.zero_le _, rfl, HR.out.2.2, _, HR.out.1⟩, HR.out.2.1⟩
          case round =>
            obtain ⟨⟨j, hj, rfl, hBr, P, hst⟩, hbr⟩ := hrel
            have HQ := Lib.hid (And.intro hst (And.intro hbr hBr))
            clear hst hbr hBr
            by_cases hlt2 : j < len1
            · obtain ⟨x, u, rfl, hu, hc⟩ := (HB.out.1.up HQ.out.2.1).get hlt2
              have hw := H0.out.2.2.2.1 u (List.mem_of_getElem? hu)
              have HW := Lib.hid hw
              clear hu hw
              go_wp2_with fail
              refine (mark_any wb.heap.size g m1 m2 a4 [] C P k j u wr HW.out HQ.out.1 HQ.out.2.2 (by omega)).mono ?_
              rintro e w5 ⟨rfl, hst5, hb5⟩
              have H5 := Lib.hid (And.intro hst5 (And.intro hb5.size (HQ.out.2.1.trans hb5)))
              clear hst5 hb5
              go_wp2_with fail
              go_roundw
              case rel => exact ⟨⟨j + 1, by omega, by go_num, Nat.le_trans HQ.out.2.2 H5.out.2.1, _, H5.out.1⟩, H5.out.2.2⟩
              case measure => simp [intOf]; omega
            · obtain rfl : j = len1 := by omega
              have HI := Lib.hid HQ.out.1.mp.isMap
              obtain ⟨z, hz⟩ : ∃ z, wl a4 C P a2 = z := ⟨_, rfl⟩
              obtain ⟨y, hy⟩ : ∃ y, wl a4 C P a3 = y := ⟨_, rfl⟩
              have HZ := Lib.hid (And.intro hz hy)
              have c1 := wrap9 wb.heap.size g m1 m2 a4 [] C P k j a2 wr H0.out.2.2.2.2.1 HQ.out.1
              rw [hz] at c1
              have HC1 := Lib.hid c1
              clear c1
              go_wp2_with fail
              refine HC1.out.mono ?_
              rintro e w6 ⟨rfl, hb6⟩
              have H6 := Lib.hid (And.intro (HQ.out.1.up hb6) (And.intro (HQ.out.2.1.trans (hb6.mono HQ.out.2.2)) (Nat.le_trans HQ.out.2.2 hb6.size)))
              have c2 := wrap9 wb.heap.size g m1 m2 a4 [] C P k j a3 w6 H0.out.2.2.2.2.2 H6.out.1
              rw [hy] at c2
              have HC2 := Lib.hid c2
              clear hb6 c2
              go_wp2_with fail
              refine HC2.out.mono ?_
              rintro e w7 ⟨rfl, hb7⟩
              have H7 := Lib.hid (And.intro (H6.out.1.up hb7) (And.intro (H6.out.2.1.trans (hb7.mono H6.out.2.2)) (Nat.le_trans H6.out.2.2 hb7.size)))
              clear hb7
              go_wp2_with fail
              refine (js_any wb.heap.size g m1 m2 a4 [] C P k j w7 H7.out.1).mono ?_
              rintro e w9 ⟨⟨ja, jc, rfl⟩, rfl⟩
              have c3 := wrap11 wb.heap.size g m1 m2 a4 [] C P k j a2 w7 H0.out.2.2.2.2.1 H7.out.1 (by simp) H7.out.2.2 (by omega)
              unfold PelPost at c3
              rw [hz] at c3
              have HC3 := Lib.hid c3
              clear c3 hz hy
              cases z
              · go_wp2_with fail
                refine HC3.out.mono ?_
                rintro e w8 ⟨rfl, hst8, hb8⟩
                have H8 := Lib.hid (And.intro hst8 (And.intro (H7.out.2.1.trans hb8) (Nat.le_trans H7.out.2.2 hb8.size)))
                clear hst8 hb8
                go_wp2_with fail
                refine (js_any wb.heap.size g m1 m2 a4 [] C P k j w8 H8.out.1).mono ?_
                rintro e w9 ⟨⟨ja2, jc2, rfl⟩, rfl⟩
                have c4 := wrap9 wb.heap.size g m1 m2 a4 [] C P k j a2 w8 H0.out.2.2.2.2.1 H8.out.1
                rw [HZ.out.1] at c4
                have HC4 := Lib.hid c4
                clear c4
                go_wp2_with fail
                refine HC4.out.mono ?_
                rintro e w9 ⟨rfl, hb9⟩
                have H9 := Lib.hid (And.intro (H8.out.1.up hb9) (And.intro (H8.out.2.1.trans (hb9.mono H8.out.2.2)) (Nat.le_trans H8.out.2.2 hb9.size)))
                have c5 := wrap9 wb.heap.size g m1 m2 a4 [] C P k j a3 w9 H0.out.2.2.2.2.2 H9.out.1
                rw [HZ.out.2] at c5
                have HC5 := Lib.hid c5
                clear c5 hb9
                go_wp2_with fail
                refine HC5.out.mono ?_
                rintro e w10 ⟨rfl, hb10⟩
                have H10 := Lib.hid (H9.out.2.1.trans (hb10.mono H9.out.2.2))
                clear hb10
                cases y
                all_goals
                  go_wp2_with fail
                  go_ret
                  exact ⟨rfl, HB.out.2.2.trans (H10.out.mono HB.out.2.2.size)⟩
              · go_wp2_with fail
                refine HC3.out.mono ?_
                rintro e w8 ⟨rfl, hst8, hb8⟩
                have H8 := Lib.hid (And.intro hst8 (And.intro (H7.out.2.1.trans hb8) (Nat.le_trans H7.out.2.2 hb8.size)))
                clear hst8 hb8
                go_wp2_with fail
                refine (js_any wb.heap.size g m1 m2 a4 _ C _ k _ w8 H8.out.1).mono ?_
                rintro e w9 ⟨⟨ja2, jc2, rfl⟩, rfl⟩
                have hl8 : (([] : List UInt8) ++ noteL).length = 8 := by decide
                rw [hl8]
                have c4 := wrap9 wb.heap.size g m1 m2 a4 _ C _ k _ a2 w8 H0.out.2.2.2.2.1 H8.out.1
                rw [wl_same HI.out H0.out.2.2.2.2.1] at c4
                have HC4 := Lib.hid c4
                clear c4 hl8
                go_wp2_with fail
                refine HC4.out.mono ?_
                rintro e w9 ⟨rfl, hb9⟩
                have H9 := Lib.hid (And.intro (H8.out.1.up hb9) (And.intro (H8.out.2.1.trans (hb9.mono H8.out.2.2)) (Nat.le_trans H8.out.2.2 hb9.size)))
                have c5 := wrap9 wb.heap.size g m1 m2 a4 _ C _ k _ a3 w9 H0.out.2.2.2.2.2 H9.out.1
                rw [wl_other H0.out.2.2.2.2.1 H0.out.2.2.2.2.2 hne, HZ.out.2] at c5
                have HC5 := Lib.hid c5
                clear c5 hb9
                go_wp2_with fail
                refine HC5.out.mono ?_
                rintro e w10 ⟨rfl, hb10⟩
                have H10 := Lib.hid (H9.out.2.1.trans (hb10.mono H9.out.2.2))
                clear hb10
                cases y
                all_goals
                  go_wp2_with fail
                  go_ret
                  exact ⟨rfl, HB.out.2.2.trans (H10.out.mono HB.out.2.2.size)⟩
end Go.Proofs.YtlhffojmpaefjaaDoor
