/-
  The contract of zzDiffJSON; conditions: those that it names.
-/
import Derived.Test.YtglchiomdojjoaaGreatFmtDif
import Derived.BigQuiet
namespace Go.Proofs.YtglchiomdojjoaaGreatFmt
open Go.RowKit

theorem tel_no {ss : List ByteArray} {t : ByteArray} (h : t ∉ ss) : addP ss t = true ∧ ∀ hs ts gs, updP ss hs ts gs t = false := by
  unfold addP updP
  exact ⟨by simp [h], fun hs ts gs => by simp [h]⟩
theorem tel_yes {ss hs ts gs : List ByteArray} {t a b : ByteArray} (hd1 : ss.Nodup) (hd3 : ts.Nodup) {i j : Nat} (h1 : ss[j]? = some t) (h2 : hs[j]? = some a) (h3 : ts[i]? = some t) (h4 : gs[i]? = some b) :
    addP ss t = false ∧ (updP ss hs ts gs t = true ↔ a ≠ b) := by
  have hm := List.mem_of_getElem? h1
  unfold addP updP
  rw [hOf_at hd1 h1 h2, hOf_at hd3 h3 h4]
  simp [hm]
theorem tel_mem {ts : List ByteArray} {s : ByteArray} (h : s ∈ ts) : addP ts s = false := by
  unfold addP
  simp [h]
theorem BB.conv {B : Nat} {v : Value} {l : Bs} {W0 w : World} (h : BB B v l W0 w) : (convert 74 9 v).run Tryz.prog w = .ok (.string (S l)) w :=
  Buf.convert (B := B) (W0 := W0) ⟨World.ownsRowF_of h.own, h.bel, h.le⟩ 74 9 Tryz.underlying74 Tryz.underlying5 Tryz.underlying9
theorem ret_diff {l m : Bs} (h : l = m) : Ending.returned (.tuple #[.string (S l), .bool true]) = .returned (.tuple #[.string (S m), .bool true]) := by rw [h]
theorem srt_json {l : List Bs} {n : Nat} (h : l.length ≤ n) (hu : ∀ u ∈ l, u.length ≤ 2097153) : (listJ (srt l)).length ≤ n * 2097156 := by
  have := listJ_le (srt l) 2097153 (fun u hx => hu u (srt_mem.1 hx))
  rw [srt_length] at this
  exact Nat.le_trans this (Nat.mul_le_mul_right _ h)
structure Two4 (a1 : Option Addr) (l1 c1 : Nat) (ss : List ByteArray) (a2 : Option Addr) (c2 : Nat) (hs : List ByteArray) (a3 : Option Addr) (l3 c3 : Nat) (ts : List ByteArray) (a4 : Option Addr) (c4 : Nat) (gs : List ByteArray) (w : World) : Prop where
  h1 : InRow w a1 l1 c1 (ss.map Value.string)
  h2 : InRow w a2 l1 c2 (hs.map Value.string)
  h3 : InRow w a3 l3 c3 (ts.map Value.string)
  h4 : InRow w a4 l3 c4 (gs.map Value.string)
  d1 : ss.Nodup
  d3 : ts.Nodup
  z1 : ∀ s ∈ ss, s.size ≤ 1048576
  z3 : ∀ s ∈ ts, s.size ≤ 1048576
theorem Two4.up {a1 : Option Addr} {l1 c1 : Nat} {ss : List ByteArray} {a2 : Option Addr} {c2 : Nat} {hs : List ByteArray} {a3 : Option Addr} {l3 c3 : Nat} {ts : List ByteArray} {a4 : Option Addr} {c4 : Nat} {gs : List ByteArray} {w w' : World} (h : Two4 a1 l1 c1 ss a2 c2 hs a3 l3 c3 ts a4 c4 gs w) (hb : Below w.heap.size w w') :
    Two4 a1 l1 c1 ss a2 c2 hs a3 l3 c3 ts a4 c4 gs w' := ⟨h.h1.up hb, h.h2.up hb, h.h3.up hb, h.h4.up hb, h.d1, h.d3, h.z1, h.z3⟩
def DiffPost (q : ByteArray) (ss hs ts gs : List ByteArray) (w : World) (e : Ending) (w' : World) : Prop :=
  Below w.heap.size w w' ∧ ((Still ss hs ts gs ∧ e = .returned (.tuple #[.string ⟨#[]⟩, .bool false])) ∨ (¬ Still ss hs ts gs ∧ e = .returned (.tuple #[.string (S (diffB q ss hs ts gs)), .bool true])))
theorem below_app {B : Nat} {w wr w' : World} {v : Value} {l : List Bs} (hb : Below B w wr) (hB : B ≤ wr.heap.size) (hr : RW B v l wr) (hg : wr.grownBy w' v.ownBlock) : Below B w w' := hb.grown hg hB (fun k hk => (hr.lt k hk).1)
set_option maxHeartbeats 16000000 in
set_option maxRecDepth 100000 in
theorem diff_any (q : ByteArray) (a1 : Option Addr) (l1 c1 : Nat) (ss : List ByteArray) (a2 : Option Addr) (c2 : Nat) (hs : List ByteArray) (a3 : Option Addr) (l3 c3 : Nat) (ts : List ByteArray) (a4 : Option Addr) (c4 : Nat) (gs : List ByteArray) (w : World) (hq : q.size ≤ 1048576)
    (h : Two4 a1 l1 c1 ss a2 c2 hs a3 l3 c3 ts a4 c4 gs w) (hl1 : l1 ≤ 4096) (hl3 : l3 ≤ 4096) :
    Calls Tryz.prog 11 #[.string q, .slice a1 l1 c1, .slice a2 l1 c2, .slice a3 l3 c3, .slice a4 l3 c4] w (DiffPost q ss hs ts gs w) := by
  obtain ⟨i0, hi, hz0, hz1, hz2⟩ := info_parts info9
  have HI := Lib.hid (And.intro hi (And.intro hz0 (And.intro hz1 hz2)))
  obtain ⟨i1, hj, hw0, hw1, hw2⟩ := info_parts infoU8
  have HJ := Lib.hid (And.intro hj (And.intro hw0 (And.intro hw1 hw2)))
  have hn1 := h.h1.len
  have hn3 := h.h3.len
  rw [List.length_map] at hn1 hn3
  have HN := Lib.hid (And.intro hn1 hn3)
  have HW := Lib.hid h
  clear hi hz0 hz1 hz2 hj hw0 hw1 hw2 h hn1 hn3
  go_enter Tryz.func11, Tryz.ntmps11
  go_wp2_with fail
  go_loopw [12, 14, 15] (fun s12 s14 s15 wr => ∃ k : Nat, s15 = .int .i64 k ∧ k ≤ l3 ∧ T3 w.heap.size s12 (urls q (addP ss) (ts.take k)) (.slice none 0 0) [] s14 (urls q (updP ss hs ts gs) (ts.take k)) wr ∧ Below w.heap.size w wr) (fun _ _ s15 _ => l3 - (intOf s15).toNat)
  case atStart => exact ⟨0, rfl, Nat.zero_le _, T3.nil _ _, Below.refl _ _⟩
  case round =>
    obtain ⟨k, rfl, hk, hT, hB⟩ := hrel
    have HT := Lib.hid (And.intro hT (And.intro hB (HW.out.up hB)))
    clear hT hB
    by_cases hlt : k < l3
    · obtain ⟨x, t, rfl, htk, hct⟩ := HT.out.2.2.h3.get hlt
      obtain ⟨y, b, rfl, hbk, hcb⟩ := HT.out.2.2.h4.get hlt
      have htz := HW.out.z3 t (List.mem_of_getElem? htk)
      have HK := Lib.hid (And.intro htk hbk)
      have HX := Lib.hid (ixOf_any a1 l1 c1 ss t wr HT.out.2.2.h1 (by omega))
      have HU := Lib.hid (fun wx => model_url q t wx hq htz)
      have hcap1 : (urls q (addP ss) (ts.take k)).length ≤ 4096 := by have := urls_le q (addP ss) (ts.take k); rw [List.length_take] at this; omega
      have hcap2 : (urls q (updP ss hs ts gs) (ts.take k)).length ≤ 4096 := by have := urls_le q (updP ss hs ts gs) (ts.take k); rw [List.length_take] at this; omega
      clear htk hbk
      go_wp2_with fail
      refine HX.out.mono ?_
      rintro e w' ⟨hix, hww⟩
      obtain rfl := hww
      rcases hix with ⟨j, rfl, hsj⟩ | ⟨rfl, hno⟩
      · have hjl : j < l1 := by have := (List.getElem?_eq_some_iff.1 hsj).1; have := HN.out.1; omega
        obtain ⟨z, a, rfl, haj, hca⟩ := HT.out.2.2.h2.get hjl
        have HP := Lib.hid (tel_yes (ts := ts) (gs := gs) HW.out.d1 HW.out.d3 hsj haj HK.out.1 HK.out.2)
        clear hsj haj
        cases hab : (a.toList == b.toList) with
        | true =>
          have HE := Lib.hid (bytes_eq hab)
          go_wp2_with fail
          go_quiet (fail)
          go_wp2_with fail
          go_roundw
          case rel =>
            refine ⟨k + 1, by go_num, by omega, ?_, ?_⟩
            · rw [urls_no HK.out.1 HP.out.1, urls_no HK.out.1 (by have := HP.out.2; rw [HE.out] at this; simpa using this)]
              exact HT.out.1.drewN _
            · exact HT.out.2.1.trans ⟨rfl, rfl, rfl, Nat.le_refl _, fun _ _ => rfl⟩
          case measure => simp [intOf]; omega
        | false =>
          have HE := Lib.hid (bytes_ne hab)
          go_wp2_with fail
          go_quiet (fail)
          go_wp2_with (first | (refine (HU.out _).mono ?_; rintro e w' ⟨rfl, hww⟩; obtain rfl := hww) | (at_builtin; refine wpList_append_own_at _ rfl _ _ 22 rfl w.heap.size 9 i0 (.string ⟨#[]⟩) 1 16 Tryz.underlying22 HI.out.1 HI.out.2.1 HI.out.2.2.1 HI.out.2.2.2 rfl (by decide) _ _ _ rfl ((HT.out.1.drewN _).alloc _).r3 ⟨wr.heap.size, 0, none⟩ 1 1 [.string (S (url q t))] rfl rfl (cell_one_new _ _ _) (by simp [Value.oneCell']) (by unfold maxLen; omega) (by omega) (by have := HT.out.2.1.size; simp; omega) ?_; intro v' w5 hown' hg5 hnil5 hat5; go_frame))
          have HA := Lib.hid (And.intro hown' (And.intro hg5 hat5))
          clear hown' hg5 hat5
          go_wp2_with fail
          go_roundw
          case rel =>
            refine ⟨k + 1, by go_num, by omega, ?_, ?_⟩
            · rw [urls_no HK.out.1 HP.out.1, urls_yes HK.out.1 (HP.out.2.2 HE.out)]
              exact (T3.app ((HT.out.1.drewN _).alloc _).rot.rot HA.out.1 HA.out.2.1 HA.out.2.2).rot
            · exact below_app ((show Below w.heap.size w (wr.drewN nq) from HT.out.2.1.trans ⟨rfl, rfl, rfl, Nat.le_refl _, fun _ _ => rfl⟩).alloc HT.out.2.1.size _) (by have := HT.out.2.1.size; simp; omega) ((HT.out.1.drewN _).alloc _).r3 HA.out.2.1
          case measure => simp [intOf]; omega
      · have HP := Lib.hid (tel_no hno)
        clear hno
        go_wp2_with (first | (refine (HU.out _).mono ?_; rintro e w' ⟨rfl, hww⟩; obtain rfl := hww) | (at_builtin; refine wpList_append_own_at _ rfl _ _ 22 rfl w.heap.size 9 i0 (.string ⟨#[]⟩) 1 16 Tryz.underlying22 HI.out.1 HI.out.2.1 HI.out.2.2.1 HI.out.2.2.2 rfl (by decide) _ _ _ rfl (HT.out.1.alloc _).r1 ⟨wr.heap.size, 0, none⟩ 1 1 [.string (S (url q t))] rfl rfl (cell_one_new _ _ _) (by simp [Value.oneCell']) (by unfold maxLen; omega) (by omega) (by have := HT.out.2.1.size; simp; omega) ?_; intro v' w5 hown' hg5 hnil5 hat5; go_frame))
        have HA := Lib.hid (And.intro hown' (And.intro hg5 hat5))
        clear hown' hg5 hat5
        go_wp2_with fail
        go_roundw
        case rel =>
          refine ⟨k + 1, by go_num, by omega, ?_, ?_⟩
          · rw [urls_yes HK.out.1 HP.out.1, urls_no HK.out.1 (HP.out.2 _ _ _)]
            exact T3.app (HT.out.1.alloc _) HA.out.1 HA.out.2.1 HA.out.2.2
          · exact below_app (HT.out.2.1.alloc HT.out.2.1.size _) (by have := HT.out.2.1.size; simp; omega) (HT.out.1.alloc _).r1 HA.out.2.1
        case measure => simp [intOf]; omega
    · obtain rfl : k = l3 := by omega
      have HT2 := HT.out
      rw [List.take_of_length_le (by have := HN.out.2; omega)] at HT2
      have HL := Lib.hid HT2
      clear HT HT2
      go_wp2_with fail
      go_loopw [13, 17] (fun s13 s17 wy => ∃ j : Nat, s17 = .int .i64 j ∧ j ≤ l1 ∧ T3 w.heap.size u12 (addU q ss ts) s13 (urls q (addP ts) (ss.take j)) u14 (updU q ss hs ts gs) wy ∧ Below w.heap.size w wy) (fun _ s17 _ => l1 - (intOf s17).toNat)
      case atStart => exact ⟨0, rfl, Nat.zero_le _, HL.out.1, HL.out.2.1⟩
      case round =>
        obtain ⟨j, rfl, hj, hT, hB⟩ := hrel
        have HT := Lib.hid (And.intro hT (And.intro hB (HW.out.up hB)))
        clear hT hB
        by_cases hlt2 : j < l1
        · obtain ⟨x, t, rfl, htk, hct⟩ := HT.out.2.2.h1.get hlt2
          have htz := HW.out.z1 t (List.mem_of_getElem? htk)
          have HK := Lib.hid htk
          have HX := Lib.hid (ixOf_any a3 k c3 ts t wr HT.out.2.2.h3 (by omega))
          have HU := Lib.hid (fun wx => model_url q t wx hq htz)
          have hcap1 : (urls q (addP ts) (ss.take j)).length ≤ 4096 := by have := urls_le q (addP ts) (ss.take j); rw [List.length_take] at this; omega
          clear htk
          go_wp2_with fail
          refine HX.out.mono ?_
          rintro e w' ⟨hix, hww⟩
          obtain rfl := hww
          rcases hix with ⟨i, rfl, hsi⟩ | ⟨rfl, hno⟩
          · have HM := Lib.hid (tel_mem (List.mem_of_getElem? hsi))
            clear hsi
            go_wp2_with fail
            go_roundw
            case rel =>
              refine ⟨j + 1, by go_num, by omega, ?_, HT.out.2.1⟩
              rw [urls_no HK.out HM.out]
              exact HT.out.1
            case measure => simp [intOf]; omega
          · have HP := Lib.hid (tel_no hno)
            clear hno
            go_wp2_with (first | (refine (HU.out _).mono ?_; rintro e w' ⟨rfl, hww⟩; obtain rfl := hww) | (at_builtin; refine wpList_append_own_at _ rfl _ _ 22 rfl w.heap.size 9 i0 (.string ⟨#[]⟩) 1 16 Tryz.underlying22 HI.out.1 HI.out.2.1 HI.out.2.2.1 HI.out.2.2.2 rfl (by decide) _ _ _ rfl (HT.out.1.alloc _).r2 ⟨wr.heap.size, 0, none⟩ 1 1 [.string (S (url q t))] rfl rfl (cell_one_new _ _ _) (by simp [Value.oneCell']) (by unfold maxLen; omega) (by omega) (by have := HT.out.2.1.size; simp; omega) ?_; intro v' w5 hown' hg5 hnil5 hat5; go_frame))
            have HA := Lib.hid (And.intro hown' (And.intro hg5 hat5))
            clear hown' hg5 hat5
            go_wp2_with fail
            go_roundw
            case rel =>
              refine ⟨j + 1, by go_num, by omega, ?_, ?_⟩
              · rw [urls_yes HK.out HP.out.1]
                exact (T3.app (HT.out.1.alloc _).rot HA.out.1 HA.out.2.1 HA.out.2.2).rot.rot
              · exact below_app (HT.out.2.1.alloc HT.out.2.1.size _) (by have := HT.out.2.1.size; simp; omega) (HT.out.1.alloc _).r2 HA.out.2.1
            case measure => simp [intOf]; omega
        · obtain rfl : j = l1 := by omega
          have HT2 := HT.out
          rw [List.take_of_length_le (by have := HN.out.1; omega)] at HT2
          have hA1 : (addU q ss ts).length ≤ 4096 := by have := urls_le q (addP ss) ts; have := HN.out.2; unfold addU; omega
          have hA2 : (addU q ts ss).length ≤ 4096 := by have := urls_le q (addP ts) ss; have := HN.out.1; unfold addU; omega
          have hA3 : (updU q ss hs ts gs).length ≤ 4096 := by have := urls_le q (updP ss hs ts gs) ts; have := HN.out.2; unfold updU; omega
          have hE1 : ∀ u ∈ addU q ss ts, u.length ≤ 2097153 := urls_each hq HW.out.z3
          have hE2 : ∀ u ∈ addU q ts ss, u.length ≤ 2097153 := urls_each hq HW.out.z1
          have hE3 : ∀ u ∈ updU q ss hs ts gs, u.length ≤ 2097153 := urls_each hq HW.out.z3
          have hJ1 := srt_json hA1 hE1
          have hJ2 := srt_json hA2 hE2
          have hJ3 := srt_json hA3 hE3
          have hst := still_iff q ss hs ts gs
          obtain ⟨L1, hL1⟩ : ∃ L, addU q ss ts = L := ⟨_, rfl⟩
          obtain ⟨L2, hL2⟩ : ∃ L, addU q ts ss = L := ⟨_, rfl⟩
          obtain ⟨L3, hL3⟩ : ∃ L, updU q ss hs ts gs = L := ⟨_, rfl⟩
          have HT3 : T3 w.heap.size u12 (addU q ss ts) u13 (addU q ts ss) u14 (updU q ss hs ts gs) wr := HT2.1
          rw [hL1, hL2, hL3] at HT3
          rw [hL1] at hA1 hE1 hJ1 hst
          rw [hL2] at hA2 hE2 hJ2 hst
          rw [hL3] at hA3 hE3 hJ3 hst
          obtain ⟨o1, p1, rfl, hI1⟩ := HT3.r1.inRow
          obtain ⟨o2, p2, rfl, hI2⟩ := HT3.r2.inRow
          obtain ⟨o3, p3, rfl, hI3⟩ := HT3.r3.inRow
          obtain ⟨m1, hm1⟩ : ∃ m, L1.length = m := ⟨_, rfl⟩
          obtain ⟨m2, hm2⟩ : ∃ m, L2.length = m := ⟨_, rfl⟩
          obtain ⟨m3, hm3⟩ : ∃ m, L3.length = m := ⟨_, rfl⟩
          rw [hm1] at hA1 hI1
          rw [hm2] at hA2 hI2
          rw [hm3] at hA3 hI3
          have HF := Lib.hid (And.intro hI1 (And.intro hI2 hI3))
          have HE := Lib.hid (And.intro hE1 (And.intro hE2 hE3))
          have HG := Lib.hid (And.intro hL1 (And.intro hL2 hL3))
          have HM := Lib.hid (And.intro hm1 (And.intro hm2 hm3))
          have HB := Lib.hid HT2.2.1
          rw [hm1, hm2, hm3]
          clear HT HT2 HT3 hI1 hI2 hI3 hE1 hE2 hE3 hL1 hL2 hL3 hm1 hm2 hm3 HL
          by_cases hs0 : Still ss hs ts gs
          · obtain ⟨rfl, rfl, rfl⟩ := hst.1 hs0
            have h1 := HM.out.1
            have h2 := HM.out.2.1
            have h3 := HM.out.2.2
            simp only [List.length_nil] at h1 h2 h3
            subst h1 h2 h3
            have HS0 := Lib.hid hs0
            clear hs0 hst
            go_wp2_with fail
            go_ret2
            exact ⟨HB.out, .inl ⟨HS0.out, rfl⟩⟩
          · have hne : (((m1 : Int) + (m2 : Int)) + (m3 : Int) == 0) = false := by
              rw [beq_eq_false_iff_ne]
              intro e
              have h1 := HM.out.1
              have h2 := HM.out.2.1
              have h3 := HM.out.2.2
              exact hs0 (hst.2 ⟨List.eq_nil_of_length_eq_zero (by omega), List.eq_nil_of_length_eq_zero (by omega), List.eq_nil_of_length_eq_zero (by omega)⟩)
            have HS0 := Lib.hid hs0
            clear hs0 hst
            have hb0 := BB.nil wr
            have k0 : j0.length = 10 := rfl
            have k1 : j1.length = 13 := rfl
            have k2 : j2.length = 13 := rfl
            have k3 : j3.length = 2 := rfl
            go_wp2_with (at_builtin; refine bb_S rfl _ _ rfl wr.heap.size i1 HJ.out.1 HJ.out.2.1 HJ.out.2.2.1 HJ.out.2.2.2 _ _ rfl wr hb0 j0 rfl (by first | (simp only [List.length_nil]; omega) | (simp only [List.length_append]; omega)) ?_; intro v0 w0 hb0'; go_frame)
            have hbJ : BB wr.heap.size v0 j0 wr w0 := hb0'
            clear hb0'
            have HS := Lib.hid (sorted_any o1 m1 p1 L1 w0 (HF.out.1.up hbJ.bel) (by omega))
            have HP := Lib.hid hbJ
            clear hbJ
            go_wp2_with fail
            refine HS.out.mono ?_
            rintro e wa ⟨ga, rfl, hra, hba, hga⟩
            have HQ := Lib.hid (list_any wr.heap.size v0 j0 ga m1 (srt L1) wr wa (HP.out.up hba) hra (by rw [srt_length]; exact HM.out.1) (by omega) (by first | omega | (simp only [List.length_append]; omega)) (fun u hu => Nat.le_trans (HE.out.1 u (srt_mem.1 hu)) (by decide)))
            clear HS hra hba hga HP
            go_wp2_with fail
            refine HQ.out.mono ?_
            rintro e wb ⟨vb, rfl, hbB⟩
            go_wp2_with (at_builtin; refine bb_S rfl _ _ rfl wr.heap.size i1 HJ.out.1 HJ.out.2.1 HJ.out.2.2.1 HJ.out.2.2.2 _ _ rfl wr hbB j1 rfl (by first | (simp only [List.length_nil]; omega) | (simp only [List.length_append]; omega)) ?_; intro v1 w1 hb1'; go_frame)
            have hbJ1 := hb1'
            clear hbB hb1' HQ
            have HS := Lib.hid (sorted_any o2 m2 p2 L2 w1 (HF.out.2.1.up hbJ1.bel) (by omega))
            have HP := Lib.hid hbJ1
            clear hbJ1
            go_wp2_with fail
            refine HS.out.mono ?_
            rintro e wa ⟨ga, rfl, hra, hba, hga⟩
            have HQ := Lib.hid (list_any wr.heap.size v1 (j0 ++ listJ (srt L1) ++ j1) ga m2 (srt L2) wr wa (HP.out.up hba) hra (by rw [srt_length]; exact HM.out.2.1) (by omega) (by first | omega | (simp only [List.length_append]; omega)) (fun u hu => Nat.le_trans (HE.out.2.1 u (srt_mem.1 hu)) (by decide)))
            clear HS hra hba hga HP
            go_wp2_with fail
            refine HQ.out.mono ?_
            rintro e wb ⟨vb, rfl, hbB⟩
            go_wp2_with (at_builtin; refine bb_S rfl _ _ rfl wr.heap.size i1 HJ.out.1 HJ.out.2.1 HJ.out.2.2.1 HJ.out.2.2.2 _ _ rfl wr hbB j2 rfl (by first | (simp only [List.length_nil]; omega) | (simp only [List.length_append]; omega)) ?_; intro v2 w2 hb2'; go_frame)
            have hbJ2 := hb2'
            clear hbB hb2' HQ
            have HS := Lib.hid (sorted_any o3 m3 p3 L3 w2 (HF.out.2.2.up hbJ2.bel) (by omega))
            have HP := Lib.hid hbJ2
            clear hbJ2
            go_wp2_with fail
            refine HS.out.mono ?_
            rintro e wa ⟨ga, rfl, hra, hba, hga⟩
            have HQ := Lib.hid (list_any wr.heap.size v2 (j0 ++ listJ (srt L1) ++ j1 ++ listJ (srt L2) ++ j2) ga m3 (srt L3) wr wa (HP.out.up hba) hra (by rw [srt_length]; exact HM.out.2.2) (by omega) (by first | omega | (simp only [List.length_append]; omega)) (fun u hu => Nat.le_trans (HE.out.2.2 u (srt_mem.1 hu)) (by decide)))
            clear HS hra hba hga HP
            go_wp2_with fail
            refine HQ.out.mono ?_
            rintro e wb ⟨vb, rfl, hbB⟩
            go_wp2_with (at_builtin; refine bb_S rfl _ _ rfl wr.heap.size i1 HJ.out.1 HJ.out.2.1 HJ.out.2.2.1 HJ.out.2.2.2 _ _ rfl wr hbB j3 rfl (by first | (simp only [List.length_nil]; omega) | (simp only [List.length_append]; omega)) ?_; intro v3 w3 hb3'; go_frame)
            have hbJ3 := hb3'
            clear hbB hb3' HQ
            have hcv := hbJ3.conv
            have HP := Lib.hid hbJ3
            clear hbJ3
            go_wp2_with fail
            rw [hcv]
            go_wp2_with fail
            go_ret2
            refine ⟨HB.out.trans (HP.out.bel.mono HB.out.size), .inr ⟨HS0.out, ret_diff ?_⟩⟩
            unfold diffB
            rw [HG.out.1, HG.out.2.1, HG.out.2.2]
            unfold jsonB
            simp only [List.append_assoc]
end Go.Proofs.YtglchiomdojjoaaGreatFmt
