/-
  The contract of a step at a quoted name; conditions: those that it names.
-/
import Derived.Test.YtjinajfejbpicaaDoorStp
import Derived.Deep.LoopGhost
namespace Go.Proofs.YtjinajfejbpicaaDoor
open Go.RowKit

theorem all_next {L : List Bs} {k : Nat} {x : Bs} (h : L[k]? = some x) : (L.take (k + 1)).all V = ((L.take k).all V && V x) := by
  obtain ⟨hk, he⟩ := List.getElem?_eq_some_iff.1 h
  rw [List.take_succ_eq_append_getElem hk, List.all_append, he]
  simp
theorem spSplit_mem : ∀ (l x : Bs), x ∈ spSplit l → x.length ≤ l.length
  | [], x, h => by
    have : x = [] := by simpa [spSplit] using h
    subst this
    exact Nat.le_refl _
  | c :: t, x, h => by
    have ih := spSplit_mem t
    rw [spSplit] at h
    split at h
    · rcases List.mem_cons.1 h with rfl | h
      · exact Nat.zero_le _
      · have := ih x h
        simp; omega
    · split at h
      · next e r he =>
        rw [he] at ih
        rcases List.mem_cons.1 h with rfl | h
        · have := ih e (by simp)
          simp; omega
        · have := ih x (List.mem_cons_of_mem _ h)
          simp; omega
      · have : x = [c] := by simpa using h
        subst this
        simp
/-- The cells of a boxed token. -/
theorem box_cells {W : World} {k : Nat} {t : Tok} (h : W.heap[k]? = some (.cells #[.pointer none, .string (S t.text), .int .i32 t.loc, .int .u32 0, .int .u16 0, .int .u8 t.kind, .int .u8 t.ws] 48 (0, 0))) : Head W k 0 t := by
  have key := fun i => cell_of_row W k i _ 48 (0, 0) h
  exact ⟨key 0, key 1, key 2, key 3, key 4, key 5, key 6⟩
def StrNo (ws : World) (L : List Bs) (gk : Nat) (s45 : Value) (wx : World) : Prop := ∃ k : Nat, k ≤ L.length ∧ s45 = .int .i64 (k : Nat) ∧ gk = L.length - k ∧ (L.take k).all V = true ∧ Below ws.heap.size ws wx

set_option maxHeartbeats 8000000 in
set_option maxRecDepth 100000 in
theorem step_str_no (pb g o : Nat) (mw : Bool) (cap : Nat) (t : Tok) (ts : List Tok) (w0 w : World) (v : Value) (n : Nat) (xs : List Value) (hc : Ctx w0 pb mw v w) (hts : TokIn w0 (some ⟨g, o, none⟩) (ts.length + 1) cap (t :: ts)) (hown : w.ownsRow w0.heap.size 48 7 v n xs) (hn : n ≤ 8388608) (hsz : t.text.length ≤ 4194304)
    (hk : t.kind = 36) (hV : (spSplit t.text).all V = false) : Calls Tryd.prog 22 #[.pointer (some ⟨pb, 0, none⟩), v, .slice (some ⟨g, o, none⟩) (ts.length + 1 : Nat) cap] w (StepEnd w0 w v n xs (some ([t], ts))) := by
  obtain ⟨i0, hi, hz0, hz1, hz2⟩ := info_parts info48
  obtain ⟨g', o', e, hh, hg⟩ := hts.head (i := 0) rfl
  cases e
  obtain ⟨c0, c1, c2, c3, c4, c5, c6⟩ := hh.up hc.below hg
  have q1 : (t.kind == 29) = false := by rw [hk]; rfl
  have q2 : (t.kind == 36) = true := by rw [hk]; rfl
  simp only [Nat.zero_mul, Nat.add_zero] at c0 c1 c2 c3 c4 c5 c6
  have hcap : ts.length + 1 ≤ cap ∧ cap ≤ maxLen := ⟨hts.2.1, hts.2.2.1⟩
  have hbs := hc.below.size
  have HI := Lib.hid (And.intro hi (And.intro hz0 (And.intro hz1 hz2)))
  have HSP := Lib.hid (fun wx => by have := zzSplit_any (S t.text) (by rw [S_size]; exact hsz) wx; rwa [S_data] at this)
  have hpl := spSplit_len t.text
  have hmem : ∀ x ∈ spSplit t.text, x.length ≤ 4194304 := by
    exact fun x hx => Nat.le_trans (spSplit_mem _ x hx) hsz
  obtain ⟨P, hP⟩ : ∃ P, spSplit t.text = P := ⟨_, rfl⟩
  rw [hP] at hV hpl hmem
  have HV := Lib.hid (And.intro hV (And.intro hmem hP))
  obtain ⟨bm, hm1, hm2⟩ := hc.tabs.g
  have HG := Lib.hid (fun (wx : World) (hx : Below w0.heap.size w0 wx) => (hx.cell (World.block_lt_of_cell? w0 _ hm1)).trans hm1)
  have HM := Lib.hid (fun (x : Bs) (hx : x.length ≤ 4194304) (wx : World) (hb : Below w0.heap.size w0 wx) => by have := valid_any (S x) (by rw [S_size]; omega) bm wx (hc.tabs.up hb) (hm2.up hb); rwa [S_data] at this)
  have HC := Lib.hid (And.intro hc (And.intro hts hown))
  obtain ⟨L, hL⟩ : ∃ L, ts.length = L := ⟨_, rfl⟩
  rw [hL] at hcap
  obtain ⟨hcap1, hcap2⟩ := hcap
  unfold maxLen at hcap2
  have HLL := Lib.hid hL
  rw [hL]
  clear hi hz0 hz1 hz2 hh hk hc hts hown hm1 hm2 hL hV hmem hP
  have hi1 : (1 : Int) ≤ (L : Int) + 1 := by omega
  have hi2 : (L : Int) + 1 ≤ (cap : Int) := by omega
  go_enter Tryd.func22, Tryd.ntmps22
  go_wp2_with fail
  refine (HSP.out _).mono ?_
  rintro e w1 ⟨G, c9, rfl, hrow, hb1⟩
  rw [HV.out.2.2] at hrow ⊢
  have hba : Below w0.heap.size w0 (w.alloc (.cells #[.pointer none, .string (S t.text), .int .i32 t.loc, .int .u32 0, .int .u16 0, .int .u8 t.kind, .int .u8 t.ws] 48)) := HC.out.1.below.alloc hbs _
  have hbx : (w.alloc (.cells #[.pointer none, .string (S t.text), .int .i32 t.loc, .int .u32 0, .int .u16 0, .int .u8 t.kind, .int .u8 t.ws] 48)).heap[w.heap.size]? = some (.cells #[.pointer none, .string (S t.text), .int .i32 t.loc, .int .u32 0, .int .u16 0, .int .u8 t.kind, .int .u8 t.ws] 48 (0, 0)) := heap_alloc_new w _
  have hbx1 := (hb1.block w.heap.size (by simp)).trans hbx
  have hw1 := hba.trans (hb1.mono hba.size)
  have HW1 := Lib.hid (And.intro hrow (And.intro hw1 (And.intro hbx1 (own_up (HC.out.2.2.alloc _) hb1))))
  have HRU := Lib.hid (((Run.refl HC.out.2.2).alloc _).below hb1)
  clear hrow hb1 hba hbx hbx1 hw1
  go_wp2_with fail
  go_loopg [45] P.length (fun gk s45 wx => StrNo w1 P gk s45 wx)
  case atStart => exact ⟨0, Nat.zero_le _, rfl, rfl, rfl, Below.refl _ _⟩
  case round =>
    obtain ⟨k, hk, rfl, rfl, hall, hbw⟩ := hrel
    have hw0 := HW1.out.2.1.trans (hbw.mono HW1.out.2.1.size)
    have hgl := HG.out _ hw0
    by_cases hlt : k < P.length
    · obtain ⟨x, hx⟩ : ∃ x, P[k]? = some x := ⟨_, List.getElem?_eq_getElem hlt⟩
      have c1' := own_at (own_up HW1.out.1 hbw) hx
      have hnx := all_next hx
      have hxm := HV.out.2.1 x (List.mem_of_getElem? hx)
      rw [hall, Bool.true_and] at hnx
      have HN := Lib.hid (And.intro hnx (And.intro hbw (And.intro hw0 hxm)))
      clear hall hbw hw0 hx hxm hnx
      cases hvx : V x
      · have HVX := Lib.hid hvx
        go_wp2_with fail
        refine (HM.out x HN.out.2.2.2 _ HN.out.2.2.1).mono ?_
        rintro e w2 ⟨rfl, hb2⟩
        rw [HVX.out]
        have hb12 := HN.out.2.1.trans (hb2.mono HN.out.2.1.size)
        obtain ⟨k0, k1, k2, k3, k4, k5, k6⟩ := box_cells ((hb12.block w.heap.size (Array.getElem?_eq_some_iff.1 HW1.out.2.2.1).1).trans HW1.out.2.2.1)
        simp only [Nat.zero_add] at k1 k2 k3 k4 k5 k6
        have HO := Lib.hid (own_up HW1.out.2.2.2 hb12)
        have HRW := Lib.hid (HRU.out.below hb12)
        have hw2 := HW1.out.2.1.trans (hb12.mono HW1.out.2.1.size)
        have hw2s := hw2.size
        have HW2 := Lib.hid hw2
        clear hb2 hb12 hw2 hvx
        by_cases hc1 : cap = 1
        all_goals go_wp2_with fail
        all_goals go_region_law (refine step_keep (by rfl) (.tmp 53) (.tmp 55) (by rfl) w0.heap.size v n xs (by rfl) ((HO.out.alloc _).drew) ⟨w2.heap.size, 0, none⟩ 1 1 (flat [t]) (by rfl) (by rfl) (seven_in t (heap_alloc_new w2 _)) (one_cells t) (by omega) (by omega) (by simp; omega) (w2.heap.size + 1) (by simp) ?_; intro g1 cap1 w3 hkk; obtain ⟨hown1, hg1, hat1, hlt1, hkp⟩ := hkk)
        all_goals (
          have hbel : Below w0.heap.size w0 w3 := (((HW2.out.alloc hw2s _).drew)).grown hg1 (Nat.le_trans hw2s (by simp)) (fun k hk => own_lt HC.out.2.2 k hk)
          have HX := Lib.hid (And.intro hbel hown1)
          have HXR := Lib.hid ((((HRW.out.alloc _).drew)).app hown1 hg1 hat1 (by simp) hkp)
          clear hbel hown1 hg1 hat1 hkp k0 k1 k2 k3 k4 k5 k6
          go_wp2_with fail)
        · have htl := HC.out.2.1.tail (some ⟨g, o, none⟩) (fun h => absurd hc1 h)
          rw [hc1] at htl
          exact bodyPost_ret (v := .tuple #[.slice (some ⟨g1, 0, none⟩) (n + 1) cap1, .slice (some ⟨g, o, none⟩) L 0, .bool true]) (by simp [results, Tryd.results22, go_sem]) rfl ⟨HX.out.1, ⟨_, HXR.out⟩, _, _, _, by rw [HLL.out], by simpa using htl, HX.out.2, HXR.out⟩
        · have htl := HC.out.2.1.tail (some ⟨g, o + 7, none⟩) (fun _ => rfl)
          exact bodyPost_ret (v := .tuple #[.slice (some ⟨g1, 0, none⟩) (n + 1) cap1, .slice (some ⟨g, o + 7, none⟩) L (cap - 1), .bool true]) (by simp [results, Tryd.results22, go_sem]) rfl ⟨HX.out.1, ⟨_, HXR.out⟩, _, _, _, by rw [HLL.out], by simpa using htl, HX.out.2, HXR.out⟩
      · go_wp2_with fail
        refine (HM.out x HN.out.2.2.2 _ HN.out.2.2.1).mono ?_
        rintro e w2 ⟨rfl, hb2⟩
        rw [hvx]
        have HB2 := Lib.hid (HN.out.2.1.trans (hb2.mono HN.out.2.1.size))
        have HVX := Lib.hid hvx
        clear hb2 hvx
        go_wp2_with fail
        go_roundg (P.length - (k + 1))
        case measure => omega
        case rel => exact ⟨k + 1, hlt, by go_num, rfl, by rw [HN.out.1, HVX.out], HB2.out⟩
    · have : P.take k = P := List.take_of_length_le (by omega)
      rw [this, HV.out.1] at hall
      cases hall
end Go.Proofs.YtjinajfejbpicaaDoor
