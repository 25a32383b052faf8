/-
  The contract of judging one group between commas, at every group; conditions: those that each lemma names.
-/
import Derived.Test.YtjinajfejbpicaaDoorGrpA
import Derived.Test.YtjinajfejbpicaaDoorGrpB
import Derived.Test.YtjinajfejbpicaaDoorGrpC
namespace Go.Proofs.YtjinajfejbpicaaDoor
open Go.RowKit

set_option maxHeartbeats 4000000 in
set_option maxRecDepth 100000 in
theorem grp_gen (g o cap : Nat) (t : Tok) (mw : Bool) (bm : Nat) (w : World) (hts : TokIn w (some ⟨g, o, none⟩) 1 cap [t]) (hk : t.kind = 29) (hGt : G t.text = true) :
    Calls Tryd.prog 21 #[.slice (some ⟨g, o, none⟩) 1 cap, .bool mw, .map (some bm)] w (GrpEnd w (some [t])) := by
  have hc1 := hts.2.1
  have hc2 := hts.2.2.1
  unfold maxLen at hc2
  obtain ⟨ga, oa, ea, hh, _⟩ := hts.head (i := 0) (t := t) rfl
  cases ea
  obtain ⟨c0, c1, c2, c3, c4, c5, c6⟩ := hh
  simp only [Nat.zero_mul, Nat.add_zero] at c0 c1 c2 c3 c4 c5 c6
  have q9 : (t.kind == 29) = true := by rw [hk]; rfl
  have HI := Lib.hid (fun wx => by have := isGen_any (S t.text) wx; rw [S_data, hGt] at this; exact this)
  clear hts hk hGt
  go_enter Tryd.func21, Tryd.ntmps21
  go_wp2_with fail
  refine (HI.out _).mono ?_
  rintro e wi ⟨rfl, rfl⟩
  go_wp2_with fail
  refine bodyPost_ret (v := .tuple #[.slice (some ⟨wi.heap.size, 0, none⟩) 1 1, .bool true]) (by simp [results, Tryd.results21, go_sem]) rfl ?_
  exact ⟨(Below.refl _ _).alloc (Nat.le_refl _) _, _, rfl, own_one _ t (Nat.le_refl _)⟩

set_option maxHeartbeats 4000000 in
set_option maxRecDepth 100000 in
theorem grp_str (g o cap : Nat) (t : Tok) (mw : Bool) (bm : Nat) (w : World) (hts : TokIn w (some ⟨g, o, none⟩) 1 cap [t]) (hT : Tabs w) (hM : MapB genD bm w) (hsz : t.text.length ≤ 4194304) (hk : t.kind = 36) :
    Calls Tryd.prog 21 #[.slice (some ⟨g, o, none⟩) 1 cap, .bool mw, .map (some bm)] w (GrpEnd w (some (expand V mw t))) := by
  have hc1 := hts.2.1
  have hc2 := hts.2.2.1
  unfold maxLen at hc2
  obtain ⟨ga, oa, ea, hh, _⟩ := hts.head (i := 0) (t := t) rfl
  cases ea
  obtain ⟨c0, c1, c2, c3, c4, c5, c6⟩ := hh
  simp only [Nat.zero_mul, Nat.add_zero] at c0 c1 c2 c3 c4 c5 c6
  have q9 : (t.kind == 29) = false := by rw [hk]; rfl
  have q6 : (t.kind == 36) = true := by rw [hk]; rfl
  have HE := exs_any t mw bm w hT hM hsz
  unfold tokV at HE
  have HE := Lib.hid HE
  clear hts hT hM hk
  go_enter Tryd.func21, Tryd.ntmps21
  go_wp2_with fail
  refine HE.out.mono ?_
  rintro e w1 ⟨hb, v, rfl, ho⟩
  have HX := Lib.hid (And.intro hb ho)
  clear hb ho
  go_wp2_with fail
  refine bodyPost_ret (v := .tuple #[v, .bool true]) (by simp [results, Tryd.results21, go_sem]) rfl ?_
  exact ⟨HX.out.1, _, rfl, HX.out.2⟩

set_option maxHeartbeats 1000000 in
theorem grp_nil (a : Option Addr) (cap : Nat) (mw : Bool) (m : Value) (w : World) : Calls Tryd.prog 21 #[.slice a 0 cap, .bool mw, m] w (GrpEnd w none) := by
  go_enter Tryd.func21, Tryd.ntmps21
  go_wp2_with fail
  refine bodyPost_ret (v := .tuple #[.slice none 0 0, .bool false]) (by simp [results, Tryd.results21, go_sem]) rfl ?_
  exact ⟨Below.refl _ _, rfl⟩

theorem grp_any (a : Option Addr) (n cap : Nat) (T : List Tok) (mw : Bool) (bm : Nat) (w : World) (hts : TokIn w a n cap T) (hT : Tabs w) (hM : MapB genD bm w) (hsz : ∀ x ∈ T, x.text.length ≤ 4194304) (hln : n ≤ 8388608) :
    Calls Tryd.prog 21 #[.slice a n cap, .bool mw, .map (some bm)] w (GrpEnd w (grp V G mw T)) := by
  have hl := hts.1
  cases T with
  | nil =>
    obtain rfl : n = 0 := hl.symm
    exact grp_nil a cap mw _ w
  | cons t r =>
    obtain ⟨g, o, rfl, _, _⟩ := hts.head (i := 0) rfl
    cases r with
    | cons u s =>
      refine grp_many g o cap n _ mw bm w hts hT hM hsz hln ?_ (by rw [← hl]; simp)
      rw [grp_cons, if_neg (by simp), if_neg (by simp)]
      rfl
    | nil =>
      obtain rfl : n = 1 := hl.symm
      by_cases hk : t.kind = 29
      · cases hG : G t.text
        · refine grp_ident1 g o cap 1 _ mw bm w hts hT hM hsz hln ?_ t rfl hk hG
          have hk3 : ¬ t.kind = KS := by rw [hk]; decide
          rw [grp_cons, if_neg (by rw [hG]; simp), if_neg (fun e => hk3 e.2)]
          rfl
        · have := grp_gen g o cap t mw bm w hts hk hG
          rw [grp_cons, if_pos ⟨rfl, hk, hG⟩]
          exact this
      · by_cases hk2 : t.kind = 36
        · have := grp_str g o cap t mw bm w hts hT hM (hsz t (by simp)) hk2
          rw [grp_cons, if_neg (fun e => hk e.2.1), if_pos ⟨rfl, hk2⟩]
          exact this
        · refine grp_other1 g o cap 1 _ mw bm w hts hT hM hsz hln ?_ t rfl hk hk2
          rw [grp_cons, if_neg (fun e => hk e.2.1), if_neg (fun e => hk2 e.2)]
          rfl
end Go.Proofs.YtjinajfejbpicaaDoor
