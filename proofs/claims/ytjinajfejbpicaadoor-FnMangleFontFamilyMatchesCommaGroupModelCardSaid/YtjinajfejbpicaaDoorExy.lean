/-
  The contract of the law's own unquoting of a name, at every name; conditions: those that each lemma names.
-/
import Derived.Test.YtjinajfejbpicaaDoorExs
namespace Go.Proofs.YtjinajfejbpicaaDoor
open Go.RowKit

theorem own_base {w : World} {B B2 : Nat} {e : TypeId} {s : Nat} {v : Value} {n : Nat} {xs : List Value} (h : w.ownsRow B2 e s v n xs) (hB : B ≤ B2) : w.ownsRow B e s v n xs := by
  obtain ⟨h1, h2⟩ := h
  refine ⟨h1, ?_⟩
  rcases h2 with h | ⟨g, cap, cur, h3, h4, h5⟩
  · exact .inl h
  · exact .inr ⟨g, cap, cur, h3, Nat.le_trans hB h4, h5⟩
def ExyRel (wm : World) (t : Tok) (P : List Bs) (mw : Bool) (gk : Nat) (s9 s10 : Value) (wx : World) : Prop :=
  ∃ i : Nat, i ≤ P.length ∧ s10 = .int .i64 (i : Nat) ∧ gk = P.length - i ∧ s9 = .slice (some ⟨wm.heap.size, 0, none⟩) i P.length ∧ wx.ownsRow wm.heap.size 48 7 (.slice (some ⟨wm.heap.size, 0, none⟩) i P.length) i (flat ((idents mw t.loc P).take i)) ∧ Below wm.heap.size wm wx

set_option maxHeartbeats 8000000 in
set_option maxRecDepth 100000 in
theorem exs_yes (t : Tok) (mw : Bool) (bm : Nat) (w : World) (hT : Tabs w) (hM : MapB genD bm w) (hsz : t.text.length ≤ 4194304) (hV : (spSplit t.text).all V = true) :
    Calls Tryd.prog 24 #[tokV t, .bool mw, .map (some bm)] w (ExsEnd (idents mw t.loc (spSplit t.text)) w) := by
  obtain ⟨i0, hi, hz0, hz1, hz2⟩ := info_parts info48
  have HI := Lib.hid (And.intro hi (And.intro hz0 (And.intro hz1 hz2)))
  clear hi hz0 hz1 hz2
  have HSP := Lib.hid (fun wx => by have := splitOn_any (S t.text) (by rw [S_size]; exact hsz) wx; rwa [S_data] at this)
  have hpl := spSplit_len t.text
  have hmem : ∀ x ∈ spSplit t.text, x.length ≤ 4194304 := fun x hx => Nat.le_trans (spSplit_mem _ x hx) hsz
  obtain ⟨P, hP⟩ : ∃ P, spSplit t.text = P := ⟨_, rfl⟩
  rw [hP] at hV hpl hmem
  have hpl2 : P.length ≤ 4194305 := by omega
  have HV := Lib.hid (And.intro hV (And.intro hmem hP))
  have HM := Lib.hid (fun (x : Bs) (hx : x.length ≤ 4194304) (wx : World) (hb : Below w.heap.size w wx) => by have := zv_any (S x) (by rw [S_size]; omega) bm wx (hT.up hb) (hM.up hb); rwa [S_data] at this)
  clear hT hM hV hmem hP hpl
  unfold tokV
  go_enter Tryd.func24, Tryd.ntmps24
  go_wp2_with fail
  refine (HSP.out _).mono ?_
  rintro e w1 ⟨G, c9, rfl, hrow, hb1⟩
  rw [HV.out.2.2] at hrow ⊢
  have hba : Below w.heap.size w (w.alloc (.cells #[.pointer none, .string (S t.text), .int .i32 t.loc, .int .u32 0, .int .u16 0, .int .u8 t.kind, .int .u8 t.ws] 48)) := (Below.refl _ _).alloc (Nat.le_refl _) _
  have hbx : (w.alloc (.cells #[.pointer none, .string (S t.text), .int .i32 t.loc, .int .u32 0, .int .u16 0, .int .u8 t.kind, .int .u8 t.ws] 48)).heap[w.heap.size]? = some (.cells #[.pointer none, .string (S t.text), .int .i32 t.loc, .int .u32 0, .int .u16 0, .int .u8 t.kind, .int .u8 t.ws] 48 (0, 0)) := heap_alloc_new w _
  have hbx1 := (hb1.block w.heap.size (by simp)).trans hbx
  have hw1 := hba.trans (hb1.mono hba.size)
  have HW1 := Lib.hid (And.intro hrow (And.intro hw1 hbx1))
  clear hrow hb1 hba hbx hbx1 hw1
  go_wp2_with fail
  go_loopg [8] P.length (fun gk s8 wx => StrNo w1 P gk s8 wx)
  case atStart => exact ⟨0, Nat.zero_le _, rfl, rfl, rfl, Below.refl _ _⟩
  case round =>
    obtain ⟨k, hk, rfl, rfl, hall, hbw⟩ := hrel
    have hw0 := HW1.out.2.1.trans (hbw.mono HW1.out.2.1.size)
    by_cases hlt : k < P.length
    · obtain ⟨x, hx⟩ : ∃ x, P[k]? = some x := ⟨_, List.getElem?_eq_getElem hlt⟩
      have c1' := own_at (own_up HW1.out.1 hbw) hx
      have hnx := all_next hx
      have hxm := HV.out.2.1 x (List.mem_of_getElem? hx)
      have hvx := List.all_eq_true.1 HV.out.1 x (List.mem_of_getElem? hx)
      rw [hall, Bool.true_and, hvx] at hnx
      have HN := Lib.hid (And.intro hnx (And.intro hbw (And.intro hw0 hxm)))
      have HVX := Lib.hid hvx
      clear hall hbw hw0 hx hxm hnx hvx
      go_wp2_with fail
      refine (HM.out x HN.out.2.2.2 _ HN.out.2.2.1).mono ?_
      rintro e w2 ⟨rfl, hb2⟩
      rw [HVX.out]
      have HB2 := Lib.hid (HN.out.2.1.trans (hb2.mono HN.out.2.1.size))
      clear hb2
      go_wp2_with fail
      go_roundg (P.length - (k + 1))
      case measure => omega
      case rel => exact ⟨k + 1, hlt, by go_num, rfl, HN.out.1, HB2.out⟩
    · clear hall
      have HWm := Lib.hid (And.intro hw0 (And.intro (own_up HW1.out.1 hbw) ((hbw.block _ (Array.getElem?_eq_some_iff.1 HW1.out.2.2).1).trans HW1.out.2.2)))
      clear hbw hw0
      obtain ⟨wm, hwm⟩ : ∃ wm, wr = wm := ⟨_, rfl⟩
      subst hwm
      go_wp2_with (at_make; refine wpList_make_own _ rfl _ _ 28 rfl wr.heap.size 48 i0 (.agg #[.pointer none, .string ⟨#[]⟩, .int .i32 0, .int .u32 0, .int .u16 0, .int .u8 0, .int .u8 0]) 7 Tryd.underlying28 HI.out.1 HI.out.2.1 HI.out.2.2.1 _ _ _ P.length rfl rfl rfl (by rw [HI.out.2.2.2]; omega) (by unfold maxLen; omega) (Nat.le_refl _) ?_; intro w2 hown hgrow)
      have hb2 : Below wr.heap.size wr w2 := (Below.refl _ _).grown hgrow (Nat.le_refl _) (fun k hk => by cases hk)
      have H2 := Lib.hid (And.intro hown hb2)
      clear hown hgrow hb2
      obtain ⟨WM, hWM⟩ : ∃ WM, WM = wr := ⟨_, rfl⟩
      have HWM := Lib.hid hWM
      go_loopg [9, 10] P.length (fun gk s9 s10 wx => ExyRel WM t P mw gk s9 s10 wx)
      case atStart => rw [hWM]; exact ⟨0, Nat.zero_le _, rfl, rfl, rfl, H2.out.1, H2.out.2⟩
      case round =>
        rw [← hWM] at HWm H2
        clear H2 hWM HWM
        obtain ⟨i, hi, rfl, rfl, rfl, hown, hb⟩ := hrel
        have hws := hb.size
        have hup := (hb.block _ (Array.getElem?_eq_some_iff.1 HWm.out.2.2).1).trans HWm.out.2.2
        have hpc := own_up HWm.out.2.1 hb
        by_cases hlt : i < P.length
        · obtain ⟨x, hx⟩ : ∃ x, P[i]? = some x := ⟨_, List.getElem?_eq_getElem hlt⟩
          have hnx := idents_next mw t.loc hx
          have d1 := own_at hpc hx
          have d2 : ∀ o, (wr.alloc o).cell? ⟨G, i, none⟩ = some (.string (S x)) := fun o => (World.cell?_alloc_lt _ _ _ (World.block_lt_of_cell? wr _ d1)).trans d1
          have kk := (box_cells hup).c2
          simp only [Nat.zero_add] at kk
          have k2 : ∀ o, (wr.alloc o).cell? ⟨w.heap.size, 2, none⟩ = some (.int .i32 t.loc) := fun o => (World.cell?_alloc_lt _ _ _ (World.block_lt_of_cell? wr _ kk)).trans kk
          have HN2 := Lib.hid (fun A B => heap2 wr A B)
          have HR0 := Lib.hid (And.intro hown (And.intro hb hnx))
          clear hown hb hnx hx hup hpc d1 kk
          by_cases hz : i = 0
          · subst hz
            cases mw
            · have hn2 : (idents false t.loc P).take 1 = (idents false t.loc P).take 0 ++ [⟨29, x, 1, t.loc⟩] := HR0.out.2.2
              have HR := Lib.hid (And.intro HR0.out.1 (And.intro HR0.out.2.1 hn2))
              clear hn2
              go_wp2_with (at_builtin; refine wpList_append_fits _ rfl _ _ 28 rfl WM.heap.size 48 i0 7 Tryd.underlying28 HI.out.1 HI.out.2.2.1 WM.heap.size 0 P.length (flat ((idents false t.loc P).take 0)) rfl ((HR.out.1.alloc _).alloc _) ⟨wr.heap.size + 1, 0, none⟩ 1 1 (flat [⟨29, x, 1, t.loc⟩]) rfl rfl (seven_in ⟨29, x, 1, t.loc⟩ (HN2.out _ _)) (one_cells _) (by omega) ?_; intro w4 hown4 hg4)
              have hbel : Below WM.heap.size WM w4 := ((HR.out.2.1.alloc hws _).alloc (Nat.le_trans hws (by simp)) _).grown hg4 (Nat.le_trans hws (by simp; omega)) (fun k hk => by cases hk; exact Nat.le_refl _)
              have HX := Lib.hid (And.intro hbel hown4)
              clear hbel hown4 hg4
              go_wp2_with fail
              go_roundg (P.length - (0 + 1))
              case measure => omega
              case rel => exact ⟨0 + 1, hlt, by go_num, rfl, rfl, by rw [HR.out.2.2, flat_append]; exact HX.out.2, HX.out.1⟩
            · have hn2 : (idents true t.loc P).take 1 = (idents true t.loc P).take 0 ++ [⟨29, x, 0, t.loc⟩] := HR0.out.2.2
              have HR := Lib.hid (And.intro HR0.out.1 (And.intro HR0.out.2.1 hn2))
              clear hn2
              go_wp2_with (at_builtin; refine wpList_append_fits _ rfl _ _ 28 rfl WM.heap.size 48 i0 7 Tryd.underlying28 HI.out.1 HI.out.2.2.1 WM.heap.size 0 P.length (flat ((idents true t.loc P).take 0)) rfl ((HR.out.1.alloc _).alloc _) ⟨wr.heap.size + 1, 0, none⟩ 1 1 (flat [⟨29, x, 0, t.loc⟩]) rfl rfl (seven_in ⟨29, x, 0, t.loc⟩ (HN2.out _ _)) (one_cells _) (by omega) ?_; intro w4 hown4 hg4)
              have hbel : Below WM.heap.size WM w4 := ((HR.out.2.1.alloc hws _).alloc (Nat.le_trans hws (by simp)) _).grown hg4 (Nat.le_trans hws (by simp; omega)) (fun k hk => by cases hk; exact Nat.le_refl _)
              have HX := Lib.hid (And.intro hbel hown4)
              clear hbel hown4 hg4
              go_wp2_with fail
              go_roundg (P.length - (0 + 1))
              case measure => omega
              case rel => exact ⟨0 + 1, hlt, by go_num, rfl, rfl, by rw [HR.out.2.2, flat_append]; exact HX.out.2, HX.out.1⟩
          · have hz2 : ((i : Int) != 0) = true := by simp; omega
            have hn2 := HR0.out.2.2
            rw [if_pos (Or.inl hz)] at hn2
            have hn3 : (idents mw t.loc P).take (i + 1) = (idents mw t.loc P).take i ++ [⟨29, x, 1, t.loc⟩] := hn2
            have HR := Lib.hid (And.intro HR0.out.1 (And.intro HR0.out.2.1 hn3))
            clear hn2 hn3
            go_wp2_with (at_builtin; refine wpList_append_fits _ rfl _ _ 28 rfl WM.heap.size 48 i0 7 Tryd.underlying28 HI.out.1 HI.out.2.2.1 WM.heap.size i P.length (flat ((idents mw t.loc P).take i)) rfl ((HR.out.1.alloc _).alloc _) ⟨wr.heap.size + 1, 0, none⟩ 1 1 (flat [⟨29, x, 1, t.loc⟩]) rfl rfl (seven_in ⟨29, x, 1, t.loc⟩ (HN2.out _ _)) (one_cells _) (by omega) ?_; intro w4 hown4 hg4)
            have hbel : Below WM.heap.size WM w4 := ((HR.out.2.1.alloc hws _).alloc (Nat.le_trans hws (by simp)) _).grown hg4 (Nat.le_trans hws (by simp; omega)) (fun k hk => by cases hk; exact Nat.le_refl _)
            have HX := Lib.hid (And.intro hbel hown4)
            clear hbel hown4 hg4
            go_wp2_with fail
            go_roundg (P.length - (i + 1))
            case measure => omega
            case rel => exact ⟨i + 1, hlt, by go_num, rfl, rfl, by rw [HR.out.2.2, flat_append]; exact HX.out.2, HX.out.1⟩
        · obtain rfl : i = P.length := by omega
          have htk : (idents mw t.loc P).take P.length = idents mw t.loc P := List.take_of_length_le (by rw [idents_len]; exact Nat.le_refl _)
          rw [htk] at hown
          have HX := Lib.hid (And.intro (HWm.out.1.trans (hb.mono HWm.out.1.size)) hown)
          clear htk hown hb hup hpc
          go_wp2_with fail
          go_ret
          refine ⟨HX.out.1, _, rfl, ?_⟩
          rw [HV.out.2.2, idents_len]
          exact own_base HX.out.2 HWm.out.1.size
theorem exs_any (t : Tok) (mw : Bool) (bm : Nat) (w : World) (hT : Tabs w) (hM : MapB genD bm w) (hsz : t.text.length ≤ 4194304) :
    Calls Tryd.prog 24 #[tokV t, .bool mw, .map (some bm)] w (ExsEnd (expand V mw t) w) := by
  unfold expand
  cases hV : (spSplit t.text).all V
  · exact exs_no t mw bm w hT hM hsz hV
  · exact exs_yes t mw bm w hT hM hsz hV
end Go.Proofs.YtjinajfejbpicaaDoor
