/-
  The walk of the law that a failed build keeps the baseline: it returns true for every input, for whatever function answers fmt as fmt's texts say; conditions: the sizes that it names.
-/
import Derived.Test.YtglchiomdojjoaaGreatFmtStt
import Derived.Test.YtglchiomdojjoaaGreatFmtFts
import Derived.BigQuiet
namespace Go.Proofs.YtglchiomdojjoaaGreatFmt
open Go.RowKit Go.Conc Go.Maps Go.Lib Go.WideMaps Go.Extern.Stop Go.Stop Go.Extern

theorem sent_still {pub : ByteArray} {ss hs ts gs : List ByteArray} (h : Still ss hs ts gs) : sentB pub ss hs ts gs = #[] := by
  unfold sentB
  rw [if_pos h]
theorem sent_not {pub : ByteArray} {ss hs ts gs : List ByteArray} (h : ¬ Still ss hs ts gs) : sentB pub ss hs ts gs = #[.agg #[.string ⟨#[99, 104, 97, 110, 103, 101]⟩, .string (S (diffB pub ss hs ts gs))]] := by
  unfold sentB
  rw [if_neg h]
theorem Two4.swap {a1 : Option Addr} {l1 c1 : Nat} {ss : List ByteArray} {a2 : Option Addr} {c2 : Nat} {hs : List ByteArray} {a3 : Option Addr} {l3 c3 : Nat} {ts : List ByteArray} {a4 : Option Addr} {c4 : Nat} {gs : List ByteArray} {w : World} (h : Two4 a1 l1 c1 ss a2 c2 hs a3 l3 c3 ts a4 c4 gs w) : Two4 a3 l3 c3 ts a4 c4 gs a1 l1 c1 ss a2 c2 hs w :=
  ⟨h.h3, h.h4, h.h1, h.h2, h.d3, h.d1, h.z3, h.z1⟩
theorem same_bytes (a : ByteArray) : (a.toList == a.toList) = true := by simp
theorem fives {w : World} {b : Nat} {v0 v1 v2 v3 v4 : Value} {t : TypeId} (h : w.heap[b]? = some (.cells #[v0, v1, v2, v3, v4] t (0, 0))) : w.cell? ⟨b, 0, none⟩ = some v0 ∧ w.cell? ⟨b, 1, none⟩ = some v1 ∧ w.cell? ⟨b, 2, none⟩ = some v2 ∧ w.cell? ⟨b, 3, none⟩ = some v3 ∧ w.cell? ⟨b, 4, none⟩ = some v4 :=
  ⟨Lib.cell_of_heap h 0, Lib.cell_of_heap h 1, Lib.cell_of_heap h 2, Lib.cell_of_heap h 3, Lib.cell_of_heap h 4⟩
def Fin (w : World) (e : Ending) (w' : World) : Prop := e = .returned (.bool true) ∧ Below w.heap.size w w'
set_option maxHeartbeats 16000000 in
set_option maxRecDepth 100000 in
theorem fnBroadcastBuildResultFailedBuildKeepsBaseline_walk (F : Interp) (q : ByteArray) (a1 : Option Addr) (l1 c1 : Nat) (ss : List ByteArray) (a2 : Option Addr) (l2 c2 : Nat) (hs : List ByteArray) (a3 : Option Addr) (l3 c3 : Nat) (ts : List ByteArray) (a4 : Option Addr) (l4 c4 : Nat) (gs : List ByteArray) (w : World)
    (hF : F.answers w.tape) (hS : Says F) (h1 : InRow w a1 l1 c1 (ss.map Value.string)) (h2 : InRow w a2 l2 c2 (hs.map Value.string)) (h3 : InRow w a3 l3 c3 (ts.map Value.string)) (h4 : InRow w a4 l4 c4 (gs.map Value.string))
    (k1 : ∀ s ∈ ss, s.size ≤ maxLen) (k2 : ∀ s ∈ hs, s.size ≤ maxLen) (k3 : ∀ s ∈ ts, s.size ≤ maxLen) (k4 : ∀ s ∈ gs, s.size ≤ maxLen) (hq : q.size ≤ maxLen) :
    Calls Tryz.prog 3 #[.string q, .slice a1 l1 c1, .slice a2 l2 c2, .slice a3 l3 c3, .slice a4 l4 c4] w (Fin w) := by
  have HF := Lib.hid (And.intro hF hS)
  have HB4 := Lib.hid (bytes4_any q a1 l1 c1 ss a2 l2 c2 hs a3 l3 c3 ts a4 l4 c4 gs w hq h1 h2 h3 h4 k1 k2 k3 k4)
  have HR := Lib.hid (And.intro h1 (And.intro h2 (And.intro h3 h4)))
  clear hF hS h1 h2 h3 h4 k1 k2 k3 k4 hq
  go_enter Tryz.func3, Tryz.ntmps3
  go_wp2_with fail
  refine HB4.out.mono ?_
  rintro e w' ⟨b, rfl, hw, hb⟩
  obtain rfl := hw
  cases b with
  | false =>
    clear hb
    go_wp2_with fail
    go_ret
    exact ⟨rfl, Below.refl _ _⟩
  | true =>
    have hb := hb rfl
    have HN := Lib.hid hb
    have HZ := Lib.hid (sizes_any q a1 l1 c1 ss a2 l2 c2 hs a3 l3 c3 ts a4 l4 c4 gs w HR.out.1 HR.out.2.1 HR.out.2.2.1 HR.out.2.2.2 hb)
    have HFt := Lib.hid (fits_any q a1 l1 c1 ss a2 l2 c2 a3 l3 c3 ts a4 l4 c4 w (by omega) HR.out.1 HR.out.2.2.1 (fun s h => by have := tot_mem h; omega) (fun s h => by have := tot_mem h; omega))
    clear hb
    go_wp2_with fail
    refine HZ.out.mono ?_
    rintro e w' ⟨⟨nn, rfl⟩, hw⟩
    obtain rfl := hw
    cases hnn : decide ((1048576 : Int) < (nn : Int)) with
    | true =>
      go_wp2_with fail
      go_ret
      exact ⟨rfl, Below.refl _ _⟩
    | false =>
      go_wp2_with fail
      clear hnn
      refine HFt.out.mono ?_
      rintro e w' ⟨b, rfl, ⟨nd, rfl⟩, hft⟩
      cases b with
      | false =>
        clear hft
        go_wp2_with fail
        go_ret
        exact ⟨rfl, ⟨rfl, rfl, rfl, Nat.le_refl _, fun _ _ => rfl⟩⟩
      | true =>
        obtain ⟨rfl, rfl, b1, b3, pub, n1, n3, d1, d3⟩ := hft rfl
        have hpz : q.size ≤ 1048576 := by have := HN.out; omega
        have z1 : ∀ s ∈ ss, s.size ≤ 1048576 := fun s h => by have := tot_mem h; have := HN.out; omega
        have z2 : ∀ s ∈ hs, s.size ≤ 1048576 := fun s h => by have := tot_mem h; have := HN.out; omega
        have z3 : ∀ s ∈ ts, s.size ≤ 1048576 := fun s h => by have := tot_mem h; have := HN.out; omega
        have z4 : ∀ s ∈ gs, s.size ≤ 1048576 := fun s h => by have := tot_mem h; have := HN.out; omega
        have e1 := HR.out.1.len
        have e2 := HR.out.2.1.len
        have e3 := HR.out.2.2.1.len
        have e4 := HR.out.2.2.2.len
        rw [List.length_map] at e1 e2 e3 e4
        have HM := Lib.hid (show Nms q ss hs ts gs from ⟨by omega, by omega, by omega, by omega, d1, d3, n1, n3, z1, z3, pub, hpz⟩)
        have HV := Lib.hid (And.intro z2 z4)
        have hB0 : Below w.heap.size w (w.drewN nd) := ⟨rfl, rfl, rfl, Nat.le_refl _, fun _ _ => rfl⟩
        obtain ⟨w0, hw0⟩ : ∃ w0, w.drewN nd = w0 := ⟨_, rfl⟩
        rw [hw0] at hB0 ⊢
        have i1 := HR.out.1.up hB0
        have i2 := HR.out.2.1.up hB0
        have i3 := HR.out.2.2.1.up hB0
        have i4 := HR.out.2.2.2.up hB0
        have HB0 := Lib.hid hB0
        have HI := Lib.hid (And.intro i1 (And.intro i2 (And.intro i3 i4)))
        clear hft pub n1 n3 d1 d3 z1 z2 z3 z4 e1 e2 e3 e4 hB0 hw0 i1 i2 i3 i4 HR HN HZ HFt HB4
        go_wp2_with fail
        refine (cloneS a1 l1 c1 ss w0 HI.out.1 (by omega)).mono ?_
        rintro e w1 ⟨A1, C1, rfl, r1, hb⟩
        have HI1 := Lib.hid (And.intro r1 (And.intro (HI.out.2.1.up hb) (And.intro (HI.out.2.2.1.up hb) (HI.out.2.2.2.up hb))))
        have HB1 := Lib.hid (HB0.out.trans (hb.mono HB0.out.size))
        clear r1 hb HI HB0
        go_wp2_with fail
        refine (cloneS a2 l1 c2 hs w1 HI1.out.2.1 (by omega)).mono ?_
        rintro e w2 ⟨A2, C2, rfl, r2, hb⟩
        have HI2 := Lib.hid (And.intro (HI1.out.1.up hb) (And.intro r2 (And.intro (HI1.out.2.2.1.up hb) (HI1.out.2.2.2.up hb))))
        have HB2 := Lib.hid (HB1.out.trans (hb.mono HB1.out.size))
        clear r2 hb HI1 HB1
        go_wp2_with fail
        refine (cloneS a3 l3 c3 ts w2 HI2.out.2.2.1 (by omega)).mono ?_
        rintro e w3 ⟨A3, C3, rfl, r3, hb⟩
        have HI3 := Lib.hid (And.intro (HI2.out.1.up hb) (And.intro (HI2.out.2.1.up hb) (And.intro r3 (HI2.out.2.2.2.up hb))))
        have HB3 := Lib.hid (HB2.out.trans (hb.mono HB2.out.size))
        clear r3 hb HI2 HB2
        go_wp2_with fail
        refine (cloneS a4 l3 c4 gs w3 HI3.out.2.2.2 (by omega)).mono ?_
        rintro e w4 ⟨A4, C4, rfl, r4, hb⟩
        have HI4 := Lib.hid (And.intro (HI3.out.1.up hb) (And.intro (HI3.out.2.1.up hb) (And.intro (HI3.out.2.2.1.up hb) r4)))
        have HB4 := Lib.hid (HB3.out.trans (hb.mono HB3.out.size))
        clear r4 hb HI3 HB3
        go_wp2_with fail
        refine (build_any A1 l1 C1 ss A2 C2 hs w4 HI4.out.1 HI4.out.2.1 (by omega) HM.out.z1 HV.out.1).mono ?_
        rintro e w5 ⟨rfl, hmp, hb⟩
        obtain ⟨m0, hm0⟩ : ∃ m, w4.heap.size = m := ⟨_, rfl⟩
        rw [hm0] at hmp ⊢
        have HT5 := Lib.hid (show Two4 A1 l1 C1 ss A2 C2 hs A3 l3 C3 ts A4 C4 gs w5 from ⟨HI4.out.1.up hb, HI4.out.2.1.up hb, HI4.out.2.2.1.up hb, HI4.out.2.2.2.up hb, HM.out.d1, HM.out.d3, HM.out.z1, HM.out.z3⟩)
        have HB5 := Lib.hid (HB4.out.trans (hb.mono HB4.out.size))
        have HP5 := Lib.hid hmp
        clear hmp hb HI4 HB4 hm0
        go_wp2_with fail
        refine (new_any q m0 w5).mono ?_
        rintro e w6 ⟨rfl, hha, hb, hfr⟩
        obtain ⟨n, hn⟩ : ∃ n, w5.heap.size = n := ⟨_, rfl⟩
        rw [hn] at hha hb hfr ⊢
        have HO := Lib.hid (fun wx (h : Below n w5 wx) => (by rw [← hn] at h; exact And.intro (HT5.out.up h) (And.intro (show F.answers wx.tape by rw [h.tape, HB5.out.tape]; exact HF.out.1) (HB5.out.trans (h.mono HB5.out.size))) : Two4 A1 l1 C1 ss A2 C2 hs A3 l3 C3 ts A4 C4 gs wx ∧ F.answers wx.tape ∧ Below w.heap.size w wx))
        have HS6 := Lib.hid (And.intro (show St n q m0 l1 ss hs #[] w6 from ⟨hha, hfr, HP5.out.up (by rw [hn]; exact hb)⟩) hb)
        clear hha hfr hb hn HT5 HB5 HP5
        go_wp2_with fail
        refine (build_any A3 l3 C3 ts A4 C4 gs w6 (HO.out _ HS6.out.2).1.h3 (HO.out _ HS6.out.2).1.h4 (by omega) HM.out.z3 HV.out.2).mono ?_
        rintro e w7 ⟨rfl, hmp, hb⟩
        obtain ⟨m7, hm7⟩ : ∃ m, w6.heap.size = m := ⟨_, rfl⟩
        rw [hm7] at hmp ⊢
        have hst7 := HS6.out.1.up hb
        have hbn7 := HS6.out.2.trans (hb.mono HS6.out.1.lt)
        have HC7 := Lib.hid (zcast F hst7 hmp HM.out (HO.out _ hbn7).2.1 HF.out.2)
        have HS7 := Lib.hid (And.intro hst7 hbn7)
        clear hmp hb hm7 hst7 hbn7
        go_wp2_with fail
        refine HC7.out.mono ?_
        rintro e w8 ⟨rfl, hst, hbk⟩
        have HS8 := Lib.hid (And.intro hst (HS7.out.2.trans (hbk.below HS7.out.1.lt)))
        clear hst hbk HC7 HS7
        by_cases hst : Still ss hs ts gs
        · rw [sent_still hst] at HS8
          have HST := Lib.hid hst
          clear hst
          go_wp2_with fail
          refine (diff_any q A1 l1 C1 ss A2 C2 hs A3 l3 C3 ts A4 C4 gs w8 HM.out.pz (HO.out _ HS8.out.2).1 (by omega) (by omega)).mono ?_
          rintro e w9 ⟨hb, ⟨hx, rfl⟩ | ⟨hx, rfl⟩⟩
          · have HS9 := Lib.hid (And.intro (HS8.out.1.up hb) (HS8.out.2.trans (hb.mono HS8.out.1.lt)))
            clear hx hb HS8
            go_wp2_with fail
            refine (pend_any n _ q _ w9 HS9.out.1.ha).mono ?_
            rintro e w' ⟨rfl, hw⟩
            obtain rfl := hw
            go_upto_region 21 with fail
            have HS10 := HS9
            go_upto_region 22 with fail
            obtain ⟨wy, hwy⟩ : ∃ wy, (w9.alloc (.cells #[.string ⟨#[]⟩, .string ⟨#[]⟩, .string ⟨#[102, 97, 105, 108, 101, 100]⟩, .pointer none, .slice none 0 0, .nilIface] 44)).alloc (.cells #[.slice (some ⟨w9.heap.size, 0, none⟩) 1 1, .slice none 0 0, .slice none 0 0, .string ⟨#[]⟩, .map none] 35) = wy := ⟨_, rfl⟩
            have hby : Below w9.heap.size w9 wy := by rw [← hwy]; exact ((Below.refl _ _).alloc (Nat.le_refl _) _).alloc (by simp) _
            have hcy : wy.heap[w9.heap.size + 1]? = some (.cells #[.slice (some ⟨w9.heap.size, 0, none⟩) 1 1, .slice none 0 0, .slice none 0 0, .string ⟨#[]⟩, .map none] 35 (0, 0)) := by
              rw [← hwy]
              have := heap_alloc_new (w9.alloc (.cells #[.string ⟨#[]⟩, .string ⟨#[]⟩, .string ⟨#[102, 97, 105, 108, 101, 100]⟩, .pointer none, .slice none 0 0, .nilIface] 44)) (.cells #[.slice (some ⟨w9.heap.size, 0, none⟩) 1 1, .slice none 0 0, .slice none 0 0, .string ⟨#[]⟩, .map none] 35)
              simpa using this
            rw [hwy]
            have HSy := Lib.hid (And.intro (HS10.out.1.up hby) (HS10.out.2.trans (hby.mono HS10.out.1.lt)))
            obtain ⟨bf, hbf⟩ : ∃ b, w9.heap.size = b := ⟨_, rfl⟩
            rw [hbf] at hcy ⊢
            have HCy := Lib.hid hcy
            clear hby hwy hbf hcy HS10
            go_cut [] from 94 to 99 (fun wx => St n q m7 l3 ts gs #[] wx ∧ Below n w5 wx)
            case first =>
              obtain ⟨g0, g1, g2, g3, g4⟩ := fives HCy.out
              have hltb : bf + 1 < wy.heap.size := (Array.getElem?_eq_some_iff.1 HCy.out).1
              go_region_with (first | (go_at_call 9; refine (build_any A1 l1 C1 ss A2 C2 hs _ (HO.out _ (by first | exact HSy.out.2 | exact HSy.out.2.drew)).1.h1 (HO.out _ (by first | exact HSy.out.2 | exact HSy.out.2.drew)).1.h2 (by omega) HM.out.z1 HV.out.1).mono ?_; rintro e wb ⟨rfl, hmp, hb⟩; obtain ⟨x0, x1, x2, x3, x4⟩ := fives ((hb.block (bf + 1) hltb).trans HCy.out)) | (go_at_call 10; refine (zfail (some ⟨bf, 0, none⟩) 1 (by first | exact HSy.out.1.up hb | exact (St.up (w := wy.drew) HSy.out.1 hb) | exact (HSy.out.1.drewN 1).up hb) hmp HM.out.swap).mono ?_; rintro e wz ⟨rfl, hst, hbk⟩))
              all_goals
                go_wp2_with fail
                go_meet
                exact ⟨hst, (HSy.out.2.drew.trans (hb.mono HSy.out.1.lt)).trans (hbk.below (Nat.le_trans HSy.out.1.lt hb.size))⟩
            case rest =>
              obtain ⟨hst, hbn⟩ := hcut
              have HS11 := Lib.hid (And.intro hst hbn)
              clear hst hbn HSy HCy
              go_wp2_with fail
              refine (pend_any n _ q _ wc HS11.out.1.ha).mono ?_
              rintro e w' ⟨rfl, hw⟩
              obtain rfl := hw
              go_wp2_with fail
              refine (state_any n _ _ q _ A3 l3 C3 ts A4 C4 gs wc HS11.out.1.ha HS11.out.1.mp (HO.out _ HS11.out.2).1.h3 (HO.out _ HS11.out.2).1.h4 (by omega) HM.out.d3 HM.out.z3).mono ?_
              rintro e w' ⟨rfl, hw⟩
              obtain rfl := hw
              go_wp2_with fail
              refine (build_any A3 l3 C3 ts A4 C4 gs wc (HO.out _ HS11.out.2).1.h3 (HO.out _ HS11.out.2).1.h4 (by omega) HM.out.z3 HV.out.2).mono ?_
              rintro e w12 ⟨rfl, hmp, hb⟩
              obtain ⟨m12, hm12⟩ : ∃ m, wc.heap.size = m := ⟨_, rfl⟩
              rw [hm12] at hmp ⊢
              have hst12 := HS11.out.1.up hb
              have hbn12 := HS11.out.2.trans (hb.mono HS11.out.1.lt)
              have HC12 := Lib.hid (zcast F hst12 hmp HM.out.right (HO.out _ hbn12).2.1 HF.out.2)
              have HS12 := Lib.hid (And.intro hst12 hbn12)
              clear hmp hb hm12 hst12 hbn12
              go_wp2_with fail
              refine HC12.out.mono ?_
              rintro e w13 ⟨rfl, hst, hbk⟩
              have HS13 := Lib.hid (And.intro hst (HS12.out.2.trans (hbk.below HS12.out.1.lt)))
              clear hst hbk HC12 HS12
              rw [sent_still (Still.refl ts gs)] at HS13
              clear HS11
              go_wp2_with fail
              refine (pend_any n _ q _ w13 HS13.out.1.ha).mono ?_
              rintro e w' ⟨rfl, hw⟩
              obtain rfl := hw
              go_wp2_with fail
              refine (state_any n _ _ q _ A3 l3 C3 ts A4 C4 gs w13 HS13.out.1.ha HS13.out.1.mp (HO.out _ HS13.out.2).1.h3 (HO.out _ HS13.out.2).1.h4 (by omega) HM.out.d3 HM.out.z3).mono ?_
              rintro e w' ⟨rfl, hw⟩
              obtain rfl := hw
              go_wp2_with fail
              refine (build_any A1 l1 C1 ss A2 C2 hs w13 (HO.out _ HS13.out.2).1.h1 (HO.out _ HS13.out.2).1.h2 (by omega) HM.out.z1 HV.out.1).mono ?_
              rintro e w14 ⟨rfl, hmp, hb⟩
              obtain ⟨m14, hm14⟩ : ∃ m, w13.heap.size = m := ⟨_, rfl⟩
              rw [hm14] at hmp ⊢
              have hst14 := HS13.out.1.up hb
              have hbn14 := HS13.out.2.trans (hb.mono HS13.out.1.lt)
              have HC14 := Lib.hid (zcast F hst14 hmp HM.out.swap (HO.out _ hbn14).2.1 HF.out.2)
              have HS14 := Lib.hid (And.intro hst14 hbn14)
              clear hmp hb hm14 hst14 hbn14
              go_wp2_with fail
              refine HC14.out.mono ?_
              rintro e w15 ⟨rfl, hst, hbk⟩
              have HS15 := Lib.hid (And.intro hst (HS14.out.2.trans (hbk.below HS14.out.1.lt)))
              clear hst hbk HC14 HS14
              clear HS13
              rw [sent_still HST.out.symm] at HS15
              go_wp2_with fail
              refine (pend_any n _ q _ w15 HS15.out.1.ha).mono ?_
              rintro e w' ⟨rfl, hw⟩
              obtain rfl := hw
              go_wp2_with fail
              refine (state_any n _ _ q _ A1 l1 C1 ss A2 C2 hs w15 HS15.out.1.ha HS15.out.1.mp (HO.out _ HS15.out.2).1.h1 (HO.out _ HS15.out.2).1.h2 (by omega) HM.out.d1 HM.out.z1).mono ?_
              rintro e w' ⟨rfl, hw⟩
              obtain rfl := hw
              go_wp2_with fail
              go_ret
              exact ⟨rfl, (HO.out _ HS15.out.2).2.2⟩
          · exact absurd HST.out hx
        · rw [sent_not hst] at HS8
          have HST := Lib.hid hst
          clear hst
          go_wp2_with fail
          refine (diff_any q A1 l1 C1 ss A2 C2 hs A3 l3 C3 ts A4 C4 gs w8 HM.out.pz (HO.out _ HS8.out.2).1 (by omega) (by omega)).mono ?_
          rintro e w9 ⟨hb, ⟨hx, rfl⟩ | ⟨hx, rfl⟩⟩
          · exact absurd hx HST.out
          · have HS9 := Lib.hid (And.intro (HS8.out.1.up hb) (HS8.out.2.trans (hb.mono HS8.out.1.lt)))
            clear hx hb HS8
            go_wp2_with fail
            refine (pend_any n _ q _ w9 HS9.out.1.ha).mono ?_
            rintro e w' ⟨rfl, hw⟩
            obtain rfl := hw
            go_wp2_with fail
            refine (recv_st HS9.out.1).mono ?_
            rintro e w10 ⟨rfl, hst, hbk⟩
            have HS10 := Lib.hid (And.intro hst (HS9.out.2.trans (hbk.below HS9.out.1.lt)))
            clear hst hbk HS9
            have hsame := same_bytes (S (diffB q ss hs ts gs))
            go_upto_region 21 with fail
            clear hsame
            go_upto_region 22 with fail
            obtain ⟨wy, hwy⟩ : ∃ wy, (w10.alloc (.cells #[.string ⟨#[]⟩, .string ⟨#[]⟩, .string ⟨#[102, 97, 105, 108, 101, 100]⟩, .pointer none, .slice none 0 0, .nilIface] 44)).alloc (.cells #[.slice (some ⟨w10.heap.size, 0, none⟩) 1 1, .slice none 0 0, .slice none 0 0, .string ⟨#[]⟩, .map none] 35) = wy := ⟨_, rfl⟩
            have hby : Below w10.heap.size w10 wy := by rw [← hwy]; exact ((Below.refl _ _).alloc (Nat.le_refl _) _).alloc (by simp) _
            have hcy : wy.heap[w10.heap.size + 1]? = some (.cells #[.slice (some ⟨w10.heap.size, 0, none⟩) 1 1, .slice none 0 0, .slice none 0 0, .string ⟨#[]⟩, .map none] 35 (0, 0)) := by
              rw [← hwy]
              have := heap_alloc_new (w10.alloc (.cells #[.string ⟨#[]⟩, .string ⟨#[]⟩, .string ⟨#[102, 97, 105, 108, 101, 100]⟩, .pointer none, .slice none 0 0, .nilIface] 44)) (.cells #[.slice (some ⟨w10.heap.size, 0, none⟩) 1 1, .slice none 0 0, .slice none 0 0, .string ⟨#[]⟩, .map none] 35)
              simpa using this
            rw [hwy]
            have HSy := Lib.hid (And.intro (HS10.out.1.up hby) (HS10.out.2.trans (hby.mono HS10.out.1.lt)))
            obtain ⟨bf, hbf⟩ : ∃ b, w10.heap.size = b := ⟨_, rfl⟩
            rw [hbf] at hcy ⊢
            have HCy := Lib.hid hcy
            clear hby hwy hbf hcy HS10
            go_cut [] from 94 to 99 (fun wx => St n q m7 l3 ts gs #[] wx ∧ Below n w5 wx)
            case first =>
              obtain ⟨g0, g1, g2, g3, g4⟩ := fives HCy.out
              have hltb : bf + 1 < wy.heap.size := (Array.getElem?_eq_some_iff.1 HCy.out).1
              go_region_with (first | (go_at_call 9; refine (build_any A1 l1 C1 ss A2 C2 hs _ (HO.out _ (by first | exact HSy.out.2 | exact HSy.out.2.drew)).1.h1 (HO.out _ (by first | exact HSy.out.2 | exact HSy.out.2.drew)).1.h2 (by omega) HM.out.z1 HV.out.1).mono ?_; rintro e wb ⟨rfl, hmp, hb⟩; obtain ⟨x0, x1, x2, x3, x4⟩ := fives ((hb.block (bf + 1) hltb).trans HCy.out)) | (go_at_call 10; refine (zfail (some ⟨bf, 0, none⟩) 1 (by first | exact HSy.out.1.up hb | exact (St.up (w := wy.drew) HSy.out.1 hb) | exact (HSy.out.1.drewN 1).up hb) hmp HM.out.swap).mono ?_; rintro e wz ⟨rfl, hst, hbk⟩))
              all_goals
                go_wp2_with fail
                go_meet
                exact ⟨hst, (HSy.out.2.drew.trans (hb.mono HSy.out.1.lt)).trans (hbk.below (Nat.le_trans HSy.out.1.lt hb.size))⟩
            case rest =>
              obtain ⟨hst, hbn⟩ := hcut
              have HS11 := Lib.hid (And.intro hst hbn)
              clear hst hbn HSy HCy
              go_wp2_with fail
              refine (pend_any n _ q _ wc HS11.out.1.ha).mono ?_
              rintro e w' ⟨rfl, hw⟩
              obtain rfl := hw
              go_wp2_with fail
              refine (state_any n _ _ q _ A3 l3 C3 ts A4 C4 gs wc HS11.out.1.ha HS11.out.1.mp (HO.out _ HS11.out.2).1.h3 (HO.out _ HS11.out.2).1.h4 (by omega) HM.out.d3 HM.out.z3).mono ?_
              rintro e w' ⟨rfl, hw⟩
              obtain rfl := hw
              go_wp2_with fail
              refine (build_any A3 l3 C3 ts A4 C4 gs wc (HO.out _ HS11.out.2).1.h3 (HO.out _ HS11.out.2).1.h4 (by omega) HM.out.z3 HV.out.2).mono ?_
              rintro e w12 ⟨rfl, hmp, hb⟩
              obtain ⟨m12, hm12⟩ : ∃ m, wc.heap.size = m := ⟨_, rfl⟩
              rw [hm12] at hmp ⊢
              have hst12 := HS11.out.1.up hb
              have hbn12 := HS11.out.2.trans (hb.mono HS11.out.1.lt)
              have HC12 := Lib.hid (zcast F hst12 hmp HM.out.right (HO.out _ hbn12).2.1 HF.out.2)
              have HS12 := Lib.hid (And.intro hst12 hbn12)
              clear hmp hb hm12 hst12 hbn12
              go_wp2_with fail
              refine HC12.out.mono ?_
              rintro e w13 ⟨rfl, hst, hbk⟩
              have HS13 := Lib.hid (And.intro hst (HS12.out.2.trans (hbk.below HS12.out.1.lt)))
              clear hst hbk HC12 HS12
              rw [sent_still (Still.refl ts gs)] at HS13
              clear HS11
              go_wp2_with fail
              refine (pend_any n _ q _ w13 HS13.out.1.ha).mono ?_
              rintro e w' ⟨rfl, hw⟩
              obtain rfl := hw
              go_wp2_with fail
              refine (state_any n _ _ q _ A3 l3 C3 ts A4 C4 gs w13 HS13.out.1.ha HS13.out.1.mp (HO.out _ HS13.out.2).1.h3 (HO.out _ HS13.out.2).1.h4 (by omega) HM.out.d3 HM.out.z3).mono ?_
              rintro e w' ⟨rfl, hw⟩
              obtain rfl := hw
              go_wp2_with fail
              refine (build_any A1 l1 C1 ss A2 C2 hs w13 (HO.out _ HS13.out.2).1.h1 (HO.out _ HS13.out.2).1.h2 (by omega) HM.out.z1 HV.out.1).mono ?_
              rintro e w14 ⟨rfl, hmp, hb⟩
              obtain ⟨m14, hm14⟩ : ∃ m, w13.heap.size = m := ⟨_, rfl⟩
              rw [hm14] at hmp ⊢
              have hst14 := HS13.out.1.up hb
              have hbn14 := HS13.out.2.trans (hb.mono HS13.out.1.lt)
              have HC14 := Lib.hid (zcast F hst14 hmp HM.out.swap (HO.out _ hbn14).2.1 HF.out.2)
              have HS14 := Lib.hid (And.intro hst14 hbn14)
              clear hmp hb hm14 hst14 hbn14
              go_wp2_with fail
              refine HC14.out.mono ?_
              rintro e w15 ⟨rfl, hst, hbk⟩
              have HS15 := Lib.hid (And.intro hst (HS14.out.2.trans (hbk.below HS14.out.1.lt)))
              clear hst hbk HC14 HS14
              clear HS13
              rw [sent_not (fun h => HST.out h.symm)] at HS15
              go_wp2_with fail
              refine (pend_any n _ q _ w15 HS15.out.1.ha).mono ?_
              rintro e w' ⟨rfl, hw⟩
              obtain rfl := hw
              go_wp2_with fail
              refine (recv_st HS15.out.1).mono ?_
              rintro e w16 ⟨rfl, hst, hbk⟩
              have HS16 := Lib.hid (And.intro hst (HS15.out.2.trans (hbk.below HS15.out.1.lt)))
              clear hst hbk HS15
              go_wp2_with fail
              refine (diff_any q A3 l3 C3 ts A4 C4 gs A1 l1 C1 ss A2 C2 hs w16 HM.out.pz (HO.out _ HS16.out.2).1.swap (by omega) (by omega)).mono ?_
              rintro e w17 ⟨hb, ⟨hx, rfl⟩ | ⟨hx, rfl⟩⟩
              · exact absurd hx.symm HST.out
              · have HS17 := Lib.hid (And.intro (HS16.out.1.up hb) (HS16.out.2.trans (hb.mono HS16.out.1.lt)))
                clear hx hb HS16
                have hsame := same_bytes (S (diffB q ts gs ss hs))
                go_wp2_with fail
                refine (state_any n _ _ q _ A1 l1 C1 ss A2 C2 hs w17 HS17.out.1.ha HS17.out.1.mp (HO.out _ HS17.out.2).1.h1 (HO.out _ HS17.out.2).1.h2 (by omega) HM.out.d1 HM.out.z1).mono ?_
                rintro e w' ⟨rfl, hw⟩
                obtain rfl := hw
                go_wp2_with fail
                go_ret
                exact ⟨rfl, (HO.out _ HS17.out.2).2.2⟩
end Go.Proofs.YtglchiomdojjoaaGreatFmt
