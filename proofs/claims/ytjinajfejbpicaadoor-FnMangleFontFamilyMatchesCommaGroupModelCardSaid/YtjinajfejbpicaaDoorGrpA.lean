/-
  The contract of judging one group between commas; conditions: those that each lemma names.
-/
import Derived.Test.YtjinajfejbpicaaDoorExy
namespace Go.Proofs.YtjinajfejbpicaaDoor
open Go.RowKit

def GrpEnd (w : World) (r : Option (List Tok)) (e : Ending) (w' : World) : Prop :=
  Below w.heap.size w w' ∧ match r with
  | none => e = .returned (.tuple #[.slice none 0 0, .bool false])
  | some o => ∃ v, e = .returned (.tuple #[v, .bool true]) ∧ w'.ownsRow w.heap.size 48 7 v o.length (flat o)
def okT (u : Tok) : Bool := u.kind = KI && V u.text
def GrpRel (w : World) (T : List Tok) (n gk : Nat) (s8 : Value) (wx : World) : Prop := ∃ k : Nat, k ≤ n ∧ s8 = .int .i64 (k : Nat) ∧ gk = n - k ∧ (T.take k).all okT = true ∧ Below w.heap.size w wx
theorem okT_next {L : List Tok} {k : Nat} {x : Tok} (h : L[k]? = some x) : (L.take (k + 1)).all okT = ((L.take k).all okT && okT x) := by
  obtain ⟨hk, he⟩ := List.getElem?_eq_some_iff.1 h
  rw [List.take_succ_eq_append_getElem hk, List.all_append, he]
  simp
theorem okT_bad {L : List Tok} {k : Nat} {x : Tok} (h : L[k]? = some x) (hx : okT x = false) : L.all okT = false := by
  rw [← Bool.not_eq_true, List.all_eq_true]
  intro h2
  rw [h2 x (List.mem_of_getElem? h)] at hx
  cases hx

set_option maxHeartbeats 8000000 in
set_option maxRecDepth 100000 in
theorem grp_many (g o cap n : Nat) (T : List Tok) (mw : Bool) (bm : Nat) (w : World) (hts : TokIn w (some ⟨g, o, none⟩) n cap T) (hT : Tabs w) (hM : MapB genD bm w) (hsz : ∀ x ∈ T, x.text.length ≤ 4194304) (hln : n ≤ 8388608) (hG : grp V G mw T = if T.all okT then some T else none) (h2 : 2 ≤ n) :
    Calls Tryd.prog 21 #[.slice (some ⟨g, o, none⟩) n cap, .bool mw, .map (some bm)] w (GrpEnd w (grp V G mw T)) := by
  have hl := hts.1
  have hc1 := hts.2.1
  have hc2 := hts.2.2.1
  unfold maxLen at hc2
  have HM := Lib.hid (fun (x : Bs) (hx : x.length ≤ 4194304) (wx : World) (hb : Below w.heap.size w wx) => by have := zv_any (S x) (by rw [S_size]; omega) bm wx (hT.up hb) (hM.up hb); rwa [S_data] at this)
  have H := Lib.hid (And.intro hts (And.intro hT (And.intro hM (And.intro hsz hln))))
  have HL := Lib.hid hl
  have HG := Lib.hid hG
  clear hts hT hM hsz hl hG
  have hp0 : ((n : Int) == 0) = false := by rw [beq_eq_false_iff_ne]; omega
  have hp1 : ((n : Int) == 1) = false := by rw [beq_eq_false_iff_ne]; omega
  go_enter Tryd.func21, Tryd.ntmps21
  go_wp2_with fail
  go_loopg [8] n (fun gk s8 wx => GrpRel w T n gk s8 wx)
  case atStart => exact ⟨0, Nat.zero_le _, rfl, rfl, rfl, Below.refl _ _⟩
  case round =>
    obtain ⟨k, hk, rfl, rfl, hall, hb⟩ := hrel
    by_cases hlt : k < n
    · obtain ⟨x, hx⟩ : ∃ x, T[k]? = some x := ⟨_, List.getElem?_eq_getElem (by rw [HL.out]; exact hlt)⟩
      have hnx := okT_next hx
      rw [hall, Bool.true_and] at hnx
      obtain ⟨ga, oa, ea, hh, _⟩ := (H.out.1.up hb).head hx
      cases ea
      have A1 := hh.c1
      have A5 := hh.c5
      have z0 : (0 : Int) ≤ (k : Int) := by omega
      have z1 : (k : Int) < (n : Int) := by omega
      have hxs := H.out.2.2.2.1 x (List.mem_of_getElem? hx)
      have HN := Lib.hid (And.intro hnx (And.intro hb (And.intro hx hxs)))
      clear hh hall hb hx hnx hxs
      by_cases hk9 : x.kind = 29
      case neg =>
        have q1 : (x.kind != 29) = true := by simpa using hk9
        have HK := Lib.hid (show okT x = false by unfold okT; rw [decide_eq_false (show ¬ x.kind = KI from hk9)]; rfl)
        clear hk9
        go_wp2_with fail
        refine bodyPost_ret (v := .tuple #[.slice none 0 0, .bool false]) (by simp [results, Tryd.results21, go_sem]) rfl ?_
        refine ⟨HN.out.2.1, ?_⟩
        rw [HG.out, okT_bad HN.out.2.2.1 HK.out, if_neg (by decide)]
      case pos =>
        have q1 : (x.kind != 29) = false := by rw [hk9]; rfl
        have HK := Lib.hid (show okT x = V x.text by unfold okT; rw [decide_eq_true (show x.kind = KI from hk9)]; rfl)
        clear hk9
        go_wp2_with fail
        refine (HM.out x.text HN.out.2.2.2 _ HN.out.2.1).mono ?_
        rintro e w2 ⟨rfl, hb2⟩
        have HB2 := Lib.hid (HN.out.2.1.trans (hb2.mono HN.out.2.1.size))
        clear hb2
        cases hvx : V x.text
        · have HVX := Lib.hid hvx
          clear hvx
          go_wp2_with fail
          refine bodyPost_ret (v := .tuple #[.slice none 0 0, .bool false]) (by simp [results, Tryd.results21, go_sem]) rfl ?_
          refine ⟨HB2.out, ?_⟩
          rw [HG.out, okT_bad HN.out.2.2.1 (HK.out.trans HVX.out), if_neg (by decide)]
        · have HVX := Lib.hid hvx
          clear hvx
          go_wp2_with fail
          go_roundg (n - (k + 1))
          case measure => omega
          case rel => exact ⟨k + 1, hlt, by go_num, rfl, by rw [HN.out.1, HK.out, HVX.out], HB2.out⟩
    · rw [List.take_of_length_le (by rw [HL.out]; omega)] at hall
      have HB := Lib.hid (And.intro hall hb)
      clear hall hb
      go_wp2_with fail
      refine (show Calls Tryd.prog 12 #[.slice (some ⟨g, o, none⟩) (n : Nat) cap] wr (CloneTEnd T wr) by rw [← HL.out]; exact cloneT_any g o cap T wr (by rw [HL.out]; exact H.out.1.up HB.out.2) (by rw [HL.out]; exact H.out.2.2.2.2)).mono ?_
      rintro e w3 ⟨g3, rfl, _, hown, hb3⟩
      have HX := Lib.hid (And.intro (HB.out.2.trans (hb3.mono HB.out.2.size)) (own_base hown HB.out.2.size))
      clear hown hb3
      go_wp2_with fail
      refine bodyPost_ret (v := .tuple #[.slice (some ⟨g3, 0, none⟩) (T.length : Nat) T.length, .bool true]) (by simp [results, Tryd.results21, go_sem]) rfl ?_
      refine ⟨HX.out.1, ?_⟩
      rw [HG.out, HB.out.1, if_pos rfl]
      exact ⟨_, rfl, HX.out.2⟩
end Go.Proofs.YtjinajfejbpicaaDoor
