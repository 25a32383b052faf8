/-
  The contract of a step at a quoted name whose pieces are all identifiers; conditions: those that it names.
-/
import Derived.Test.YtjinajfejbpicaaDoorStr2
namespace Go.Proofs.YtjinajfejbpicaaDoor
open Go.RowKit

theorem idents_next (mw : Bool) (loc : Int) {P : List Bs} {i : Nat} {x : Bs} (h : P[i]? = some x) : (idents mw loc P).take (i + 1) = (idents mw loc P).take i ++ [⟨KI, x, if i ≠ 0 ∨ mw = false then 1 else 0, loc⟩] := by
  have e : (idents mw loc P)[i]? = some ⟨KI, x, if i ≠ 0 ∨ mw = false then 1 else 0, loc⟩ := by
    unfold idents
    rw [List.getElem?_mapIdx, h]
    rfl
  rw [List.take_add_one, e]
  rfl
theorem idents_len (mw : Bool) (loc : Int) (P : List Bs) : (idents mw loc P).length = P.length := by unfold idents; rw [List.length_mapIdx]
def IdRel (w0 w : World) (v : Value) (NB G bt c9 : Nat) (t : Tok) (P : List Bs) (mw : Bool) (n : Nat) (xs : List Value) (gk : Nat) (s1 s62 : Value) (wx : World) : Prop :=
  ∃ i : Nat, i ≤ P.length ∧ s62 = .int .i64 (i : Nat) ∧ gk = P.length - i ∧ wx.ownsRow w0.heap.size 48 7 s1 (n + i) (xs ++ flat ((idents mw t.loc P).take i)) ∧ Below w0.heap.size w0 wx ∧
    wx.heap[bt]? = some (.cells #[.pointer none, .string (S t.text), .int .i32 t.loc, .int .u32 0, .int .u16 0, .int .u8 t.kind, .int .u8 t.ws] 48 (0, 0)) ∧ wx.ownsRow NB 9 1 (.slice (some ⟨G, 0, none⟩) P.length c9) P.length (sv P) ∧ (∀ k, s1.ownBlock = some k → k ≠ G ∧ k ≠ bt) ∧ Run w v xs s1 wx

set_option maxHeartbeats 8000000 in
set_option maxRecDepth 100000 in
theorem step_str_yes (pb g o : Nat) (mw : Bool) (cap : Nat) (t : Tok) (ts : List Tok) (w0 w : World) (v : Value) (n : Nat) (xs : List Value) (hc : Ctx w0 pb mw v w) (hts : TokIn w0 (some ⟨g, o, none⟩) (ts.length + 1) cap (t :: ts)) (hown : w.ownsRow w0.heap.size 48 7 v n xs) (hn : n ≤ 8388608) (hsz : t.text.length ≤ 4194304)
    (hk : t.kind = 36) (hV : (spSplit t.text).all V = true) : Calls Tryd.prog 22 #[.pointer (some ⟨pb, 0, none⟩), v, .slice (some ⟨g, o, none⟩) (ts.length + 1 : Nat) cap] w (StepEnd w0 w v n xs (some (idents mw t.loc (spSplit t.text), ts))) := by
  obtain ⟨i0, hi, hz0, hz1, hz2⟩ := info_parts info48
  obtain ⟨g', o', e, hh, hg⟩ := hts.head (i := 0) rfl
  cases e
  obtain ⟨c0, c1, c2, c3, c4, c5, c6⟩ := hh.up hc.below hg
  have q1 : (t.kind == 29) = false := by rw [hk]; rfl
  have q2 : (t.kind == 36) = true := by rw [hk]; rfl
  simp only [Nat.zero_mul, Nat.add_zero] at c0 c1 c2 c3 c4 c5 c6
  have hcap : ts.length + 1 ≤ cap ∧ cap ≤ maxLen := ⟨hts.2.1, hts.2.2.1⟩
  have hbs := hc.below.size
  have HI := Lib.hid (And.intro hi (And.intro hz0 (And.intro hz1 hz2)))
  have HSP := Lib.hid (fun wx => by have := zzSplit_any (S t.text) (by rw [S_size]; exact hsz) wx; rwa [S_data] at this)
  have hpl := spSplit_len t.text
  have hmem : ∀ x ∈ spSplit t.text, x.length ≤ 4194304 := by
    exact fun x hx => Nat.le_trans (spSplit_mem _ x hx) hsz
  obtain ⟨P, hP⟩ : ∃ P, spSplit t.text = P := ⟨_, rfl⟩
  rw [hP] at hV hpl hmem
  have HV := Lib.hid (And.intro hV (And.intro hmem hP))
  obtain ⟨bm, hm1, hm2⟩ := hc.tabs.g
  have HG := Lib.hid (fun (wx : World) (hx : Below w0.heap.size w0 wx) => (hx.cell (World.block_lt_of_cell? w0 _ hm1)).trans hm1)
  have HM := Lib.hid (fun (x : Bs) (hx : x.length ≤ 4194304) (wx : World) (hb : Below w0.heap.size w0 wx) => by have := valid_any (S x) (by rw [S_size]; omega) bm wx (hc.tabs.up hb) (hm2.up hb); rwa [S_data] at this)
  have HC := Lib.hid (And.intro hc (And.intro hts hown))
  obtain ⟨L, hL⟩ : ∃ L, ts.length = L := ⟨_, rfl⟩
  rw [hL] at hcap
  obtain ⟨hcap1, hcap2⟩ := hcap
  unfold maxLen at hcap2
  have HLL := Lib.hid hL
  rw [hL]
  clear hi hz0 hz1 hz2 hh hk hc hts hown hm1 hm2 hL hV hmem hP
  have hi1 : (1 : Int) ≤ (L : Int) + 1 := by omega
  have hi2 : (L : Int) + 1 ≤ (cap : Int) := by omega
  go_enter Tryd.func22, Tryd.ntmps22
  go_wp2_with fail
  refine (HSP.out _).mono ?_
  rintro e w1 ⟨G, c9, rfl, hrow, hb1⟩
  rw [HV.out.2.2] at hrow ⊢
  have hba : Below w0.heap.size w0 (w.alloc (.cells #[.pointer none, .string (S t.text), .int .i32 t.loc, .int .u32 0, .int .u16 0, .int .u8 t.kind, .int .u8 t.ws] 48)) := HC.out.1.below.alloc hbs _
  have hbx : (w.alloc (.cells #[.pointer none, .string (S t.text), .int .i32 t.loc, .int .u32 0, .int .u16 0, .int .u8 t.kind, .int .u8 t.ws] 48)).heap[w.heap.size]? = some (.cells #[.pointer none, .string (S t.text), .int .i32 t.loc, .int .u32 0, .int .u16 0, .int .u8 t.kind, .int .u8 t.ws] 48 (0, 0)) := heap_alloc_new w _
  have hbx1 := (hb1.block w.heap.size (by simp)).trans hbx
  have hw1 := hba.trans (hb1.mono hba.size)
  have HW1 := Lib.hid (And.intro hrow (And.intro hw1 (And.intro hbx1 (own_up (HC.out.2.2.alloc _) hb1))))
  have HRU := Lib.hid (((Run.refl HC.out.2.2).alloc _).below hb1)
  clear hrow hb1 hba hbx hbx1 hw1
  go_wp2_with fail
  go_loopg [45] P.length (fun gk s45 wx => StrNo w1 P gk s45 wx)
  case atStart => exact ⟨0, Nat.zero_le _, rfl, rfl, rfl, Below.refl _ _⟩
  case round =>
    obtain ⟨k, hk, rfl, rfl, hall, hbw⟩ := hrel
    have hw0 := HW1.out.2.1.trans (hbw.mono HW1.out.2.1.size)
    have hgl := HG.out _ hw0
    by_cases hlt : k < P.length
    · obtain ⟨x, hx⟩ : ∃ x, P[k]? = some x := ⟨_, List.getElem?_eq_getElem hlt⟩
      have c1' := own_at (own_up HW1.out.1 hbw) hx
      have hnx := all_next hx
      have hxm := HV.out.2.1 x (List.mem_of_getElem? hx)
      rw [hall, Bool.true_and] at hnx
      have HN := Lib.hid (And.intro hnx (And.intro hbw (And.intro hw0 hxm)))
      have HXM := Lib.hid (List.mem_of_getElem? hx)
      clear hall hbw hw0 hx hxm hnx
      cases hvx : V x
      · exact absurd hvx (by rw [List.all_eq_true.1 HV.out.1 x HXM.out]; decide)
      · go_wp2_with fail
        refine (HM.out x HN.out.2.2.2 _ HN.out.2.2.1).mono ?_
        rintro e w2 ⟨rfl, hb2⟩
        rw [hvx]
        have HB2 := Lib.hid (HN.out.2.1.trans (hb2.mono HN.out.2.1.size))
        have HVX := Lib.hid hvx
        clear hb2 hvx
        go_wp2_with fail
        go_roundg (P.length - (k + 1))
        case measure => omega
        case rel => exact ⟨k + 1, hlt, by go_num, rfl, by rw [HN.out.1, HVX.out], HB2.out⟩
    · have hbw1 := hbw
      clear hall
      obtain ⟨g9, c99, e9, hG1, hG2⟩ := HW1.out.1.form (by have := HV.out.2.2; rw [← this]; exact List.length_pos_iff.2 (spSplit_ne _))
      cases e9
      have hlow : ∀ k, v.ownBlock = some k → k < w.heap.size := fun k hk => (HC.out.2.2.lt k hk).2
      have hG3 : w.heap.size + 1 ≤ G := by simpa using hG1
      have hsz1 := hbw.size
      have HY := Lib.hid (⟨0, Nat.zero_le _, rfl, rfl, by
          have := own_up HW1.out.2.2.2 hbw
          simpa [flat] using this, hw0, (hbw.block _ (Array.getElem?_eq_some_iff.1 HW1.out.2.2.1).1).trans HW1.out.2.2.1, own_up HW1.out.1 hbw, fun k hk => ⟨by have := hlow k hk; omega, by have := hlow k hk; omega⟩, HRU.out.below hbw1⟩ : IdRel w0 w v (w.alloc (.cells #[.pointer none, .string (S t.text), .int .i32 t.loc, .int .u32 0, .int .u16 0, .int .u8 t.kind, .int .u8 t.ws] 48)).heap.size G w.heap.size c9 t P mw n xs P.length v (.int .i64 0) wr)
      clear hbw hbw1 hw0 hG1 hG2 hG3 hlow hgl hsz1
      go_wp2_with fail
      go_loopg [1, 62] P.length (fun gk s1 s62 wx => IdRel w0 w v (w.alloc (.cells #[.pointer none, .string (S t.text), .int .i32 t.loc, .int .u32 0, .int .u16 0, .int .u8 t.kind, .int .u8 t.ws] 48)).heap.size G w.heap.size c9 t P mw n xs gk s1 s62 wx)
      case atStart => exact HY.out
      case round =>
        clear HY
        obtain ⟨i, hi, rfl, rfl, hown, hbw, hbox, hnm, hne, hrun⟩ := hrel
        have HRUN := Lib.hid hrun
        obtain ⟨k0, k1, k2, k3, k4, k5, k6⟩ := box_cells hbox
        simp only [Nat.zero_add] at k1 k2 k3 k4 k5 k6
        have hws := hbw.size
        by_cases hlt : i < P.length
        · obtain ⟨x, hx⟩ : ∃ x, P[i]? = some x := ⟨_, List.getElem?_eq_getElem hlt⟩
          have hnx := idents_next mw t.loc hx
          have d1 := own_at hnm hx
          have hpar := (World.cell?_of_block (a := ⟨pb, 50, none⟩) (hrun.fr pb (World.block_lt_of_cell? w _ HC.out.1.par) HC.out.1.pne)).trans HC.out.1.par
          have HR := Lib.hid (And.intro hown (And.intro hbw (And.intro hbox (And.intro hnm (And.intro hne hnx)))))
          clear hown hbw hbox hnm hne hnx hx k0 k1 k3 k4 k5 k6 hrun
          by_cases hz : i = 0
          · subst hz
            cases mw
            · have HN2 := Lib.hid HR.out.2.2.2.2.2
              go_wp2_with (at_builtin; refine wpList_keep rfl _ _ rfl w0.heap.size _ _ _ rfl (HR.out.1.alloc _) ⟨wr.heap.size, 0, none⟩ 1 1 (flat [⟨KI, x, 1, t.loc⟩]) rfl rfl (seven_in ⟨KI, x, 1, t.loc⟩ (heap_alloc_new wr _)) (one_cells _) (by omega) (by omega) (by simp; omega) (wr.heap.size + 1) (by simp) ?_; intro g1 cap1 w3 hkk; obtain ⟨hown1, hg1, hat1, hlt1, hkp⟩ := hkk)
              have hbel : Below w0.heap.size w0 w3 := (HR.out.2.1.alloc hws _).grown hg1 (Nat.le_trans hws (by simp)) (fun k hk => own_lt HR.out.1 k hk)
              have hneG := HR.out.2.2.2.2.1
              have hltb := (Array.getElem?_eq_some_iff.1 HR.out.2.2.1).1
              have hltG := (HR.out.2.2.2.1.lt G rfl).2
              have hbx3 : w3.heap[w.heap.size]? = _ := (hg1.block w.heap.size (by simp; omega) (fun h => (hneG _ h.symm).2 rfl)).trans ((Below.heap_alloc wr _ _ hltb).trans HR.out.2.2.1)
              have hnm3 := (HR.out.2.2.2.1.alloc (.cells #[.pointer none, .string (S x), .int .i32 t.loc, .int .u32 0, .int .u16 0, .int .u8 29, .int .u8 1] 48)).kept hg1 (.inr (fun h => (hneG _ h.symm).1 rfl))
              have hne3 : ∀ k, (Value.slice (some ⟨g1, 0, none⟩) (n + 0 + 1) cap1).ownBlock = some k → k ≠ G ∧ k ≠ w.heap.size := by
                intro k hk
                obtain rfl : g1 = k := Option.some.inj hk
                rcases hat1 with h | h
                · exact hneG _ h
                · omega
              have hown2 := hown1
              rw [List.append_assoc] at hown2
              have HX := Lib.hid (And.intro hbel (And.intro hown1 (And.intro hbx3 (And.intro hnm3 (And.intro hne3 ((HRUN.out.alloc _).app hown2 hg1 hat1 (by simp) hkp))))))
              clear hbel hown1 hown2 hg1 hat1 hneG hbx3 hnm3 hne3 hkp
              go_wp2_with fail
              go_roundg (P.length - (0 + 1))
              case measure => omega
              case rel => exact ⟨0 + 1, by omega, by go_num, rfl, by rw [HN2.out, flat_append, ← List.append_assoc]; exact HX.out.2.1, HX.out.1, HX.out.2.2.1, HX.out.2.2.2.1, HX.out.2.2.2.2.1, HX.out.2.2.2.2.2⟩
            · have HN2 := Lib.hid HR.out.2.2.2.2.2
              go_wp2_with (at_builtin; refine wpList_keep rfl _ _ rfl w0.heap.size _ _ _ rfl (HR.out.1.alloc _) ⟨wr.heap.size, 0, none⟩ 1 1 (flat [⟨KI, x, 0, t.loc⟩]) rfl rfl (seven_in ⟨KI, x, 0, t.loc⟩ (heap_alloc_new wr _)) (one_cells _) (by omega) (by omega) (by simp; omega) (wr.heap.size + 1) (by simp) ?_; intro g1 cap1 w3 hkk; obtain ⟨hown1, hg1, hat1, hlt1, hkp⟩ := hkk)
              have hbel : Below w0.heap.size w0 w3 := (HR.out.2.1.alloc hws _).grown hg1 (Nat.le_trans hws (by simp)) (fun k hk => own_lt HR.out.1 k hk)
              have hneG := HR.out.2.2.2.2.1
              have hltb := (Array.getElem?_eq_some_iff.1 HR.out.2.2.1).1
              have hltG := (HR.out.2.2.2.1.lt G rfl).2
              have hbx3 : w3.heap[w.heap.size]? = _ := (hg1.block w.heap.size (by simp; omega) (fun h => (hneG _ h.symm).2 rfl)).trans ((Below.heap_alloc wr _ _ hltb).trans HR.out.2.2.1)
              have hnm3 := (HR.out.2.2.2.1.alloc (.cells #[.pointer none, .string (S x), .int .i32 t.loc, .int .u32 0, .int .u16 0, .int .u8 29, .int .u8 0] 48)).kept hg1 (.inr (fun h => (hneG _ h.symm).1 rfl))
              have hne3 : ∀ k, (Value.slice (some ⟨g1, 0, none⟩) (n + 0 + 1) cap1).ownBlock = some k → k ≠ G ∧ k ≠ w.heap.size := by
                intro k hk
                obtain rfl : g1 = k := Option.some.inj hk
                rcases hat1 with h | h
                · exact hneG _ h
                · omega
              have hown2 := hown1
              rw [List.append_assoc] at hown2
              have HX := Lib.hid (And.intro hbel (And.intro hown1 (And.intro hbx3 (And.intro hnm3 (And.intro hne3 ((HRUN.out.alloc _).app hown2 hg1 hat1 (by simp) hkp))))))
              clear hbel hown1 hown2 hg1 hat1 hneG hbx3 hnm3 hne3 hkp
              go_wp2_with fail
              go_roundg (P.length - (0 + 1))
              case measure => omega
              case rel => exact ⟨0 + 1, by omega, by go_num, rfl, by rw [HN2.out, flat_append, ← List.append_assoc]; exact HX.out.2.1, HX.out.1, HX.out.2.2.1, HX.out.2.2.2.1, HX.out.2.2.2.2.1, HX.out.2.2.2.2.2⟩
          · have hz2 : ((i : Int) == 0) = false := by rw [beq_eq_false_iff_ne]; omega
            have hn2 := HR.out.2.2.2.2.2
            rw [if_pos (Or.inl hz)] at hn2
            have HN2 := Lib.hid hn2
            clear hn2
            go_wp2_with (at_builtin; refine wpList_keep rfl _ _ rfl w0.heap.size _ _ _ rfl (HR.out.1.alloc _) ⟨wr.heap.size, 0, none⟩ 1 1 (flat [⟨KI, x, 1, t.loc⟩]) rfl rfl (seven_in ⟨KI, x, 1, t.loc⟩ (heap_alloc_new wr _)) (one_cells _) (by omega) (by omega) (by simp; omega) (wr.heap.size + 1) (by simp) ?_; intro g1 cap1 w3 hkk; obtain ⟨hown1, hg1, hat1, hlt1, hkp⟩ := hkk)
            have hbel : Below w0.heap.size w0 w3 := (HR.out.2.1.alloc hws _).grown hg1 (Nat.le_trans hws (by simp)) (fun k hk => own_lt HR.out.1 k hk)
            have hneG := HR.out.2.2.2.2.1
            have hltb := (Array.getElem?_eq_some_iff.1 HR.out.2.2.1).1
            have hltG := (HR.out.2.2.2.1.lt G rfl).2
            have hbx3 : w3.heap[w.heap.size]? = _ := (hg1.block w.heap.size (by simp; omega) (fun h => (hneG _ h.symm).2 rfl)).trans ((Below.heap_alloc wr _ _ hltb).trans HR.out.2.2.1)
            have hnm3 := (HR.out.2.2.2.1.alloc (.cells #[.pointer none, .string (S x), .int .i32 t.loc, .int .u32 0, .int .u16 0, .int .u8 29, .int .u8 1] 48)).kept hg1 (.inr (fun h => (hneG _ h.symm).1 rfl))
            have hne3 : ∀ k, (Value.slice (some ⟨g1, 0, none⟩) (n + i + 1) cap1).ownBlock = some k → k ≠ G ∧ k ≠ w.heap.size := by
              intro k hk
              obtain rfl : g1 = k := Option.some.inj hk
              rcases hat1 with h | h
              · exact hneG _ h
              · omega
            have hown2 := hown1
            rw [List.append_assoc] at hown2
            have HX := Lib.hid (And.intro hbel (And.intro hown1 (And.intro hbx3 (And.intro hnm3 (And.intro hne3 ((HRUN.out.alloc _).app hown2 hg1 hat1 (by simp) hkp))))))
            clear hbel hown1 hown2 hg1 hat1 hneG hbx3 hnm3 hne3 hkp
            go_wp2_with fail
            go_roundg (P.length - (i + 1))
            case measure => omega
            case rel => exact ⟨i + 1, by omega, by go_num, rfl, by rw [HN2.out, flat_append, ← List.append_assoc]; exact HX.out.2.1, HX.out.1, HX.out.2.2.1, HX.out.2.2.2.1, HX.out.2.2.2.2.1, HX.out.2.2.2.2.2⟩
        · obtain rfl : i = P.length := by omega
          have htk : (idents mw t.loc P).take P.length = idents mw t.loc P := List.take_of_length_le (by unfold idents; rw [List.length_mapIdx]; exact Nat.le_refl _)
          rw [htk] at hown
          have HX := Lib.hid (And.intro hbw hown)
          clear htk hown hbw hbox hnm hne hrun k0 k1 k2 k3 k4 k5 k6
          by_cases hc1 : cap = 1
          all_goals go_wp2_with fail
          all_goals go_region
          all_goals go_wp2_with fail
          · have htl := HC.out.2.1.tail (some ⟨g, o, none⟩) (fun h => absurd hc1 h)
            rw [hc1] at htl
            exact bodyPost_ret (v := .tuple #[u1, .slice (some ⟨g, o, none⟩) L 0, .bool true]) (by simp [results, Tryd.results22, go_sem]) rfl ⟨HX.out.1.drew, ⟨_, HRUN.out.drew⟩, _, _, _, by rw [HLL.out], by simpa using htl, by rw [HV.out.2.2, idents_len]; exact HX.out.2.drew, HRUN.out.drew⟩
          · have htl := HC.out.2.1.tail (some ⟨g, o + 7, none⟩) (fun _ => rfl)
            exact bodyPost_ret (v := .tuple #[u1, .slice (some ⟨g, o + 7, none⟩) L (cap - 1), .bool true]) (by simp [results, Tryd.results22, go_sem]) rfl ⟨HX.out.1.drew, ⟨_, HRUN.out.drew⟩, _, _, _, by rw [HLL.out], by simpa using htl, by rw [HV.out.2.2, idents_len]; exact HX.out.2.drew, HRUN.out.drew⟩
end Go.Proofs.YtjinajfejbpicaaDoor
