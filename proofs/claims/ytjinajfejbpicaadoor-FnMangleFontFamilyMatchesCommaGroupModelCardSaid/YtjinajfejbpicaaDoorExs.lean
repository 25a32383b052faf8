/-
  The contracts of the law's own unquoting of a name; conditions: those that each names.
-/
import Derived.Test.YtjinajfejbpicaaDoorGmp
namespace Go.Proofs.YtjinajfejbpicaaDoor
open Go.RowKit

/-- A token as a value. -/
def tokV (t : Tok) : Value := .agg #[.pointer none, .string (S t.text), .int .i32 t.loc, .int .u32 0, .int .u16 0, .int .u8 t.kind, .int .u8 t.ws]
theorem own_one (w : World) (t : Tok) {B : Nat} (hB : B ≤ w.heap.size) : (w.alloc (.cells #[.pointer none, .string (S t.text), .int .i32 t.loc, .int .u32 0, .int .u16 0, .int .u8 t.kind, .int .u8 t.ws] 48)).ownsRow B 48 7 (.slice (some ⟨w.heap.size, 0, none⟩) 1 1) 1 (flat [t]) :=
  ⟨by rw [flat_len]; rfl, .inr ⟨w.heap.size, 1, _, rfl, hB, heap_alloc_new _ _, Nat.le_refl _, by unfold maxLen; omega, rfl, by rw [flat_one]; rfl⟩⟩
set_option maxHeartbeats 1000000 in
theorem zv_any (s : ByteArray) (hs : s.size ≤ 1073741824) (b : Nat) (w : World) (hT : Tabs w) (hb : MapB genD b w) : Calls Tryd.prog 25 #[.string s, .map (some b)] w (VEnd s.data.toList w) := by
  have H := Lib.hid (valid_any s hs b w hT hb)
  clear hs hT hb
  go_enter Tryd.func25, Tryd.ntmps25
  go_wp2_with fail
  refine H.out.mono ?_
  rintro e w1 ⟨rfl, hb1⟩
  have HB := Lib.hid hb1
  clear hb1
  go_wp2_with fail
  go_ret
  exact ⟨rfl, HB.out⟩
def ExsEnd (ts : List Tok) (w : World) (e : Ending) (w' : World) : Prop := Below w.heap.size w w' ∧ ∃ v, e = .returned v ∧ w'.ownsRow w.heap.size 48 7 v ts.length (flat ts)

set_option maxHeartbeats 8000000 in
set_option maxRecDepth 100000 in
theorem exs_no (t : Tok) (mw : Bool) (bm : Nat) (w : World) (hT : Tabs w) (hM : MapB genD bm w) (hsz : t.text.length ≤ 4194304) (hV : (spSplit t.text).all V = false) :
    Calls Tryd.prog 24 #[tokV t, .bool mw, .map (some bm)] w (ExsEnd [t] w) := by
  have HSP := Lib.hid (fun wx => by have := splitOn_any (S t.text) (by rw [S_size]; exact hsz) wx; rwa [S_data] at this)
  have hpl := spSplit_len t.text
  have hmem : ∀ x ∈ spSplit t.text, x.length ≤ 4194304 := fun x hx => Nat.le_trans (spSplit_mem _ x hx) hsz
  obtain ⟨P, hP⟩ : ∃ P, spSplit t.text = P := ⟨_, rfl⟩
  rw [hP] at hV hpl hmem
  have HV := Lib.hid (And.intro hV (And.intro hmem hP))
  have HM := Lib.hid (fun (x : Bs) (hx : x.length ≤ 4194304) (wx : World) (hb : Below w.heap.size w wx) => by have := zv_any (S x) (by rw [S_size]; omega) bm wx (hT.up hb) (hM.up hb); rwa [S_data] at this)
  clear hT hM hV hmem hP
  unfold tokV
  go_enter Tryd.func24, Tryd.ntmps24
  go_wp2_with fail
  refine (HSP.out _).mono ?_
  rintro e w1 ⟨G, c9, rfl, hrow, hb1⟩
  rw [HV.out.2.2] at hrow ⊢
  have hba : Below w.heap.size w (w.alloc (.cells #[.pointer none, .string (S t.text), .int .i32 t.loc, .int .u32 0, .int .u16 0, .int .u8 t.kind, .int .u8 t.ws] 48)) := (Below.refl _ _).alloc (Nat.le_refl _) _
  have hbx : (w.alloc (.cells #[.pointer none, .string (S t.text), .int .i32 t.loc, .int .u32 0, .int .u16 0, .int .u8 t.kind, .int .u8 t.ws] 48)).heap[w.heap.size]? = some (.cells #[.pointer none, .string (S t.text), .int .i32 t.loc, .int .u32 0, .int .u16 0, .int .u8 t.kind, .int .u8 t.ws] 48 (0, 0)) := heap_alloc_new w _
  have hbx1 := (hb1.block w.heap.size (by simp)).trans hbx
  have hw1 := hba.trans (hb1.mono hba.size)
  have HW1 := Lib.hid (And.intro hrow (And.intro hw1 hbx1))
  clear hrow hb1 hba hbx hbx1 hw1
  go_wp2_with fail
  go_loopg [8] P.length (fun gk s8 wx => StrNo w1 P gk s8 wx)
  case atStart => exact ⟨0, Nat.zero_le _, rfl, rfl, rfl, Below.refl _ _⟩
  case round =>
    obtain ⟨k, hk, rfl, rfl, hall, hbw⟩ := hrel
    have hw0 := HW1.out.2.1.trans (hbw.mono HW1.out.2.1.size)
    by_cases hlt : k < P.length
    · obtain ⟨x, hx⟩ : ∃ x, P[k]? = some x := ⟨_, List.getElem?_eq_getElem hlt⟩
      have c1' := own_at (own_up HW1.out.1 hbw) hx
      have hnx := all_next hx
      have hxm := HV.out.2.1 x (List.mem_of_getElem? hx)
      rw [hall, Bool.true_and] at hnx
      have HN := Lib.hid (And.intro hnx (And.intro hbw (And.intro hw0 hxm)))
      clear hall hbw hw0 hx hxm hnx
      cases hvx : V x
      · have HVX := Lib.hid hvx
        go_wp2_with fail
        refine (HM.out x HN.out.2.2.2 _ HN.out.2.2.1).mono ?_
        rintro e w2 ⟨rfl, hb2⟩
        rw [HVX.out]
        have hb12 := HN.out.2.1.trans (hb2.mono HN.out.2.1.size)
        obtain ⟨k0, k1, k2, k3, k4, k5, k6⟩ := box_cells ((hb12.block w.heap.size (Array.getElem?_eq_some_iff.1 HW1.out.2.2).1).trans HW1.out.2.2)
        simp only [Nat.zero_add] at k1 k2 k3 k4 k5 k6
        have hw2 := HW1.out.2.1.trans (hb12.mono HW1.out.2.1.size)
        have HW2 := Lib.hid hw2
        clear hb2 hb12 hw2 hvx
        go_wp2_with fail
        go_ret
        exact ⟨HW2.out.alloc HW2.out.size _, _, rfl, own_one w2 t HW2.out.size⟩
      · have HVX := Lib.hid hvx
        go_wp2_with fail
        refine (HM.out x HN.out.2.2.2 _ HN.out.2.2.1).mono ?_
        rintro e w2 ⟨rfl, hb2⟩
        rw [HVX.out]
        have HB2 := Lib.hid (HN.out.2.1.trans (hb2.mono HN.out.2.1.size))
        clear hb2 hvx
        go_wp2_with fail
        go_roundg (P.length - (k + 1))
        case measure => omega
        case rel => exact ⟨k + 1, hlt, by go_num, rfl, by rw [HN.out.1, HVX.out], HB2.out⟩
    · exfalso
      rw [List.take_of_length_le (by omega)] at hall
      rw [HV.out.1] at hall
      cases hall
end Go.Proofs.YtjinajfejbpicaaDoor
