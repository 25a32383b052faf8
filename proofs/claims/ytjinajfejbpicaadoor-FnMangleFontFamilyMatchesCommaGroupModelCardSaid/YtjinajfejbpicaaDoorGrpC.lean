/-
  The contract of judging one group between commas, at one other token; conditions: those that each lemma names.
-/
import Derived.Test.YtjinajfejbpicaaDoorGrpA
namespace Go.Proofs.YtjinajfejbpicaaDoor
open Go.RowKit

set_option maxHeartbeats 8000000 in
set_option maxRecDepth 100000 in
theorem grp_other1 (g o cap n : Nat) (T : List Tok) (mw : Bool) (bm : Nat) (w : World) (hts : TokIn w (some ⟨g, o, none⟩) n cap T) (hT : Tabs w) (hM : MapB genD bm w) (hsz : ∀ x ∈ T, x.text.length ≤ 4194304) (hln : n ≤ 8388608) (hG : grp V G mw T = if T.all okT then some T else none) (t : Tok) (h2 : T = [t]) (hk : t.kind ≠ 29) (hk2 : t.kind ≠ 36) :
    Calls Tryd.prog 21 #[.slice (some ⟨g, o, none⟩) n cap, .bool mw, .map (some bm)] w (GrpEnd w (grp V G mw T)) := by
  have hl := hts.1
  have hc1 := hts.2.1
  have hc2 := hts.2.2.1
  unfold maxLen at hc2
  have HM := Lib.hid (fun (x : Bs) (hx : x.length ≤ 4194304) (wx : World) (hb : Below w.heap.size w wx) => by have := zv_any (S x) (by rw [S_size]; omega) bm wx (hT.up hb) (hM.up hb); rwa [S_data] at this)
  have H := Lib.hid (And.intro hts (And.intro hT (And.intro hM (And.intro hsz hln))))
  have HL := Lib.hid hl
  have HG := Lib.hid hG
  obtain rfl : n = 1 := by rw [← hl, h2]; rfl
  obtain ⟨ga, oa, ea, hh, _⟩ := hts.head (i := 0) (t := t) (by rw [h2]; rfl)
  cases ea
  have B5 := hh.c5
  simp only [Nat.zero_mul, Nat.add_zero] at B5
  have q9 : (t.kind == 29) = false := by rw [beq_eq_false_iff_ne]; exact hk
  have q6 : (t.kind == 36) = false := by rw [beq_eq_false_iff_ne]; exact hk2
  clear hts hT hM hsz hl hG hh h2 hk hk2
  go_enter Tryd.func21, Tryd.ntmps21
  go_wp2_with fail
  go_loopg [8] 1 (fun gk s8 wx => GrpRel w T 1 gk s8 wx)
  case atStart => exact ⟨0, Nat.zero_le _, rfl, rfl, rfl, Below.refl _ _⟩
  case round =>
    obtain ⟨k, hk, rfl, rfl, hall, hb⟩ := hrel
    by_cases hlt : k < 1
    · obtain ⟨x, hx⟩ : ∃ x, T[k]? = some x := ⟨_, List.getElem?_eq_getElem (by rw [HL.out]; exact hlt)⟩
      have hnx := okT_next hx
      rw [hall, Bool.true_and] at hnx
      obtain ⟨ga, oa, ea, hh, _⟩ := (H.out.1.up hb).head hx
      cases ea
      have A1 := hh.c1
      have A5 := hh.c5
      have z0 : (0 : Int) ≤ (k : Int) := by omega
      have z1 : (k : Int) < (1 : Int) := by omega
      have hxs := H.out.2.2.2.1 x (List.mem_of_getElem? hx)
      have HN := Lib.hid (And.intro hnx (And.intro hb (And.intro hx hxs)))
      clear hh hall hb hx hnx hxs
      by_cases hk9 : x.kind = 29
      case neg =>
        have q1 : (x.kind != 29) = true := by simpa using hk9
        have HK := Lib.hid (show okT x = false by unfold okT; rw [decide_eq_false (show ¬ x.kind = KI from hk9)]; rfl)
        clear hk9
        go_wp2_with fail
        refine bodyPost_ret (v := .tuple #[.slice none 0 0, .bool false]) (by simp [results, Tryd.results21, go_sem]) rfl ?_
        refine ⟨HN.out.2.1, ?_⟩
        rw [HG.out, okT_bad HN.out.2.2.1 HK.out, if_neg (by decide)]
      case pos =>
        have q1 : (x.kind != 29) = false := by rw [hk9]; rfl
        have HK := Lib.hid (show okT x = V x.text by unfold okT; rw [decide_eq_true (show x.kind = KI from hk9)]; rfl)
        clear hk9
        go_wp2_with fail
        refine (HM.out x.text HN.out.2.2.2 _ HN.out.2.1).mono ?_
        rintro e w2 ⟨rfl, hb2⟩
        have HB2 := Lib.hid (HN.out.2.1.trans (hb2.mono HN.out.2.1.size))
        clear hb2
        cases hvx : V x.text
        · have HVX := Lib.hid hvx
          clear hvx
          go_wp2_with fail
          refine bodyPost_ret (v := .tuple #[.slice none 0 0, .bool false]) (by simp [results, Tryd.results21, go_sem]) rfl ?_
          refine ⟨HB2.out, ?_⟩
          rw [HG.out, okT_bad HN.out.2.2.1 (HK.out.trans HVX.out), if_neg (by decide)]
        · have HVX := Lib.hid hvx
          clear hvx
          go_wp2_with fail
          go_roundg (1 - (k + 1))
          case measure => omega
          case rel => exact ⟨k + 1, hlt, by go_num, rfl, by rw [HN.out.1, HK.out, HVX.out], HB2.out⟩
    · rw [List.take_of_length_le (by rw [HL.out]; omega)] at hall
      have HB := Lib.hid (And.intro hall hb)
      clear hall hb
      go_wp2_with fail
      refine (show Calls Tryd.prog 12 #[.slice (some ⟨g, o, none⟩) (1 : Nat) cap] wr (CloneTEnd T wr) by rw [← HL.out]; exact cloneT_any g o cap T wr (by rw [HL.out]; exact H.out.1.up HB.out.2) (by rw [HL.out]; exact H.out.2.2.2.2)).mono ?_
      rintro e w3 ⟨g3, rfl, _, hown, hb3⟩
      have HX := Lib.hid (And.intro (HB.out.2.trans (hb3.mono HB.out.2.size)) (own_base hown HB.out.2.size))
      clear hown hb3
      go_wp2_with fail
      refine bodyPost_ret (v := .tuple #[.slice (some ⟨g3, 0, none⟩) (T.length : Nat) T.length, .bool true]) (by simp [results, Tryd.results21, go_sem]) rfl ?_
      refine ⟨HX.out.1, ?_⟩
      rw [HG.out, HB.out.1, if_pos rfl]
      exact ⟨_, rfl, HX.out.2⟩
end Go.Proofs.YtjinajfejbpicaaDoor
