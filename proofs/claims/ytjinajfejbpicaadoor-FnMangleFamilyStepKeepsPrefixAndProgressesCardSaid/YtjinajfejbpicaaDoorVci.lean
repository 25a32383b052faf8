/-
  The contract of isValidCustomIdent at every text; conditions: what the listed tables hold, the text's size.
-/
import Derived.Test.YtjinajfejbpicaaDoorMaps
import Derived.Test.YtjinajfejbpicaaDoorRunes
import Derived.Shelf.Unicode.DecodeLastEight
import Derived.Deep.LoopGhost
import Derived.Lib.OthersKept
import Derived.BigQuiet
import Derived.Deep.QuietTactic
namespace Go.Proofs.YtjinajfejbpicaaDoor
open Go.RowKit

theorem iter_below (w : World) (s : ByteArray) (i : Nat) : Below w.heap.size w (w.iter s i) := by
  unfold World.iter
  exact (Below.refl _ _).alloc (Nat.le_refl _) _
def nmS (r : Int) : Bool := (decide (97 ≤ r) && decide (r ≤ 122)) || (decide (65 ≤ r) && decide (r ≤ 90)) || r == 95 || decide (128 ≤ r) || r == 0
def nmC (r : Int) : Bool := nmS r || (decide (48 ≤ r) && decide (r ≤ 57)) || r == 45

set_option maxHeartbeats 1000000 in
theorem nameStart_any (r : Int) (hr : -2147483648 ≤ r ∧ r ≤ 2147483647) (w : World) : Calls Tryd.prog 40 #[.int .i32 r] w fun e w' => e = .returned (.bool (nmS r)) ∧ w = w' := by
  obtain ⟨r1, r2⟩ := hr
  by_cases h1 : 97 ≤ r <;> by_cases h2 : r ≤ 122 <;> by_cases h3 : 65 ≤ r <;> by_cases h4 : r ≤ 90 <;> by_cases h5 : 128 ≤ r <;> cases h6 : (r == 95) <;> cases h7 : (r == 0) <;> cases hb : nmS r <;> first
    | (exfalso; unfold nmS at hb; simp at hb h6 h7; omega)
    | (clear hb
       go_enter Tryd.func40, Tryd.ntmps40
       go_wp2_with fail
       go_ret
       exact ⟨rfl, rfl⟩)

set_option maxHeartbeats 1000000 in
theorem nameCont_any (r : Int) (hr : -2147483648 ≤ r ∧ r ≤ 2147483647) (w : World) : Calls Tryd.prog 32 #[.int .i32 r] w fun e w' => e = .returned (.bool (nmC r)) ∧ w = w' := by
  have hs := Lib.hid (fun wx => nameStart_any r hr wx)
  obtain ⟨r1, r2⟩ := hr
  cases h0 : nmS r
  · by_cases h1 : 48 ≤ r <;> by_cases h2 : r ≤ 57 <;> cases h6 : (r == 45) <;> cases hb : nmC r <;> first
      | (exfalso; unfold nmC at hb; rw [h0] at hb; simp at hb h6; omega)
      | (rw [h0] at hs
         clear hb h0
         go_enter Tryd.func32, Tryd.ntmps32
         go_wp2_with fail
         refine (hs.out _).mono ?_
         rintro e w' ⟨rfl, rfl⟩
         go_wp2_with fail
         go_ret
         first
           | exact ⟨rfl, rfl⟩
           | exact ⟨by show Ending.returned (Value.bool (decide (r ≤ 57))) = _; rw [decide_eq_true h2], rfl⟩
           | exact ⟨by show Ending.returned (Value.bool (decide (r ≤ 57))) = _; rw [decide_eq_false (by omega)], rfl⟩)
  · have hc : nmC r = true := by unfold nmC; rw [h0]; rfl
    rw [hc]
    rw [h0] at hs
    clear hc h0
    go_enter Tryd.func32, Tryd.ntmps32
    go_wp2_with fail
    refine (hs.out _).mono ?_
    rintro e w' ⟨rfl, rfl⟩
    go_wp2_with fail
    go_ret
    exact ⟨rfl, rfl⟩

/-- Would a text start an identifier without escapes? -/
def wsi (s : ByteArray) : Bool :=
  if (((Lib.decodeGo s).1 : Int) == 65533) = true ∧ (Lib.decodeGo s).2 ≤ 1 then false
  else if nmS ((Lib.decodeGo s).1 : Int) = true then true
  else if (((Lib.decodeGo s).1 : Int) == 45) = true then
    (if (((Lib.decodeGo (s.extract (Lib.decodeGo s).2 s.size)).1 : Int) == 65533) = true ∧ (Lib.decodeGo (s.extract (Lib.decodeGo s).2 s.size)).2 ≤ 1 then false
     else nmS ((Lib.decodeGo (s.extract (Lib.decodeGo s).2 s.size)).1 : Int) || ((Lib.decodeGo (s.extract (Lib.decodeGo s).2 s.size)).1 : Int) == 45)
  else false
theorem rune_le (s : ByteArray) : (Lib.decodeGo s).1 ≤ 1114111 := by
  unfold Lib.decodeGo
  split
  · decide
  · exact Lib.rune_le s 0
def WsiEnd (s : ByteArray) (w : World) (e : Ending) (w' : World) : Prop := e = .returned (.bool (wsi s)) ∧ Below w.heap.size w w'

set_option maxHeartbeats 4000000 in
set_option maxRecDepth 100000 in
theorem wouldStart_any (s : ByteArray) (hs : s.size ≤ 1073741824) (w : World) (hT : Tabs w) : Calls Tryd.prog 31 #[.string s] w (WsiEnd s w) := by
  have hD := fun (x : ByteArray) (wx : World) (hx : Below w.heap.size w wx) => Tryd.utf8_DecodeRuneInString x wx (hT.up hx).u
  have hN := fun (r : Nat) (h : r ≤ 1114111) wx => nameStart_any (r : Int) (by omega) wx
  have h1 := rune_le s
  have h2 := Lib.decodeGo_le_size s
  obtain ⟨R, hR⟩ : ∃ R, (Lib.decodeGo s).1 = R := ⟨_, rfl⟩
  obtain ⟨K, hK⟩ : ∃ K, (Lib.decodeGo s).2 = K := ⟨_, rfl⟩
  have h3 := rune_le (s.extract K s.size)
  obtain ⟨R2, hR2⟩ : ∃ R, (Lib.decodeGo (s.extract K s.size)).1 = R := ⟨_, rfl⟩
  obtain ⟨K2, hK2⟩ : ∃ K', (Lib.decodeGo (s.extract K s.size)).2 = K' := ⟨_, rfl⟩
  have h4 := Lib.decodeGo_le_size (s.extract K s.size)
  have h5 : (s.extract K s.size).size ≤ s.size := by rw [ByteArray.size_extract]; omega
  have hv : wsi s = if ((R : Int) == 65533) = true ∧ K ≤ 1 then false
    else if nmS (R : Int) = true then true
    else if ((R : Int) == 45) = true then (if ((R2 : Int) == 65533) = true ∧ K2 ≤ 1 then false else nmS (R2 : Int) || (R2 : Int) == 45) else false := by
    unfold wsi
    rw [hR, hK, hR2, hK2]
  have hD1 := fun wx hx => hD s wx hx
  have hD2 := fun wx hx => hD (s.extract K s.size) wx hx
  rw [hR, hK] at hD1
  rw [hR2, hK2] at hD2
  rw [hR] at h1
  rw [hK] at h2
  rw [hR2] at h3
  rw [hK2] at h4
  have hN1 := hN R h1
  have hN2 := hN R2 h3
  have H := Lib.hid (And.intro hD1 (And.intro hD2 (And.intro hN1 hN2)))
  have HV := Lib.hid hv
  clear hD hD1 hD2 hN hN1 hN2 hR hK hR2 hK2 hT hv
  have done : ∀ b : Bool, (∀ wx, Below w.heap.size w wx → True) → wsi s = b → True := fun _ _ _ => trivial
  clear done
  by_cases b12 : ((R : Int) == 65533) = true ∧ K ≤ 1
  · obtain ⟨b1, b2⟩ := b12
    have hv := HV.out
    rw [if_pos ⟨b1, b2⟩] at hv
    have HX := Lib.hid hv
    clear hv
    go_enter Tryd.func31, Tryd.ntmps31
    go_wp2_with fail
    refine (H.out.1 _ (Below.refl _ _)).mono ?_
    rintro e w1 ⟨rfl, hb1⟩
    have HB := Lib.hid hb1
    clear hb1
    go_wp2_with fail
    go_ret
    exact ⟨by rw [HX.out]; rfl, HB.out⟩
  have hv := HV.out
  rw [if_neg b12] at hv
  have b1 : ((R : Int) == 65533) = false ∨ (((R : Int) == 65533) = true ∧ ¬ K ≤ 1) := by
    cases h : ((R : Int) == 65533)
    · exact .inl rfl
    · exact .inr ⟨rfl, fun e => b12 ⟨h, e⟩⟩
  clear b12 HV
  have H1 := H.out.2.2.1
  have H2 := H.out.2.2.2
  cases b3 : nmS (R : Int)
  · rw [b3] at hv H1
    rw [if_neg (by decide)] at hv
    cases b4 : ((R : Int) == 45)
    · rw [b4] at hv
      rw [if_neg (by decide)] at hv
      have HX := Lib.hid (And.intro hv H1)
      clear hv H1 H2 b3
      rcases b1 with b1 | ⟨b1, b2⟩
      all_goals (
        go_enter Tryd.func31, Tryd.ntmps31
        go_wp2_with fail
        refine (H.out.1 _ (Below.refl _ _)).mono ?_
        rintro e w1 ⟨rfl, hb1⟩
        have HB := Lib.hid hb1
        clear hb1
        go_wp2_with fail
        refine (HX.out.2 _).mono ?_
        rintro e w2 ⟨rfl, rfl⟩
        go_wp2_with fail
        go_ret
        exact ⟨by rw [HX.out.1]; rfl, HB.out⟩)
    · rw [b4, if_pos rfl] at hv
      have b1' : ((R : Int) == 65533) = false := by
        rw [beq_eq_false_iff_ne]
        have := beq_iff_eq.1 b4
        omega
      clear b1 b3
      by_cases c12 : ((R2 : Int) == 65533) = true ∧ K2 ≤ 1
      · obtain ⟨c1, c2⟩ := c12
        rw [if_pos ⟨c1, c2⟩] at hv
        have HX := Lib.hid (And.intro hv H1)
        clear hv H1 H2
        go_enter Tryd.func31, Tryd.ntmps31
        go_wp2_with fail
        refine (H.out.1 _ (Below.refl _ _)).mono ?_
        rintro e w1 ⟨rfl, hb1⟩
        have HB := Lib.hid hb1
        clear hb1
        go_wp2_with fail
        refine (HX.out.2 _).mono ?_
        rintro e w2 ⟨rfl, rfl⟩
        go_wp2_with fail
        refine (H.out.2.1 _ HB.out).mono ?_
        rintro e w3 ⟨rfl, hb3⟩
        have HB3 := Lib.hid (HB.out.trans (hb3.mono HB.out.size))
        clear hb3
        go_wp2_with fail
        go_ret
        exact ⟨by rw [HX.out.1]; rfl, HB3.out⟩
      · rw [if_neg c12] at hv
        have c1 : ((R2 : Int) == 65533) = false ∨ (((R2 : Int) == 65533) = true ∧ ¬ K2 ≤ 1) := by
          cases h : ((R2 : Int) == 65533)
          · exact .inl rfl
          · exact .inr ⟨rfl, fun e => c12 ⟨h, e⟩⟩
        clear c12
        cases c3 : nmS (R2 : Int) <;> cases c4 : ((R2 : Int) == 45)
        all_goals (
          rw [c3, c4] at hv
          rw [c3] at H2
          have HX := Lib.hid (And.intro hv (And.intro H1 H2))
          clear hv H1 H2 c3
          rcases c1 with c1 | ⟨c1, c2⟩
          all_goals (
            go_enter Tryd.func31, Tryd.ntmps31
            go_wp2_with fail
            refine (H.out.1 _ (Below.refl _ _)).mono ?_
            rintro e w1 ⟨rfl, hb1⟩
            have HB := Lib.hid hb1
            clear hb1
            go_wp2_with fail
            refine (HX.out.2.1 _).mono ?_
            rintro e w2 ⟨rfl, rfl⟩
            go_wp2_with fail
            refine (H.out.2.1 _ HB.out).mono ?_
            rintro e w3 ⟨rfl, hb3⟩
            have HB3 := Lib.hid (HB.out.trans (hb3.mono HB.out.size))
            clear hb3
            go_wp2_with fail
            refine (HX.out.2.2 _).mono ?_
            rintro e w2 ⟨rfl, rfl⟩
            go_wp2_with fail
            go_ret
            exact ⟨by rw [HX.out.1]; rfl, HB3.out⟩))
  · rw [b3] at hv H1
    rw [if_pos rfl] at hv
    have HX := Lib.hid (And.intro hv H1)
    clear hv H1 H2 b3
    rcases b1 with b1 | ⟨b1, b2⟩
    all_goals (
      go_enter Tryd.func31, Tryd.ntmps31
      go_wp2_with fail
      refine (H.out.1 _ (Below.refl _ _)).mono ?_
      rintro e w1 ⟨rfl, hb1⟩
      have HB := Lib.hid hb1
      clear hb1
      go_wp2_with fail
      refine (HX.out.2 _).mono ?_
      rintro e w2 ⟨rfl, rfl⟩
      go_wp2_with fail
      go_ret
      exact ⟨by rw [HX.out.1]; rfl, HB.out⟩)

/-! ### The whole test -/
def lowL (l : List UInt8) : List UInt8 := Lib.toLowerD l
/-- Is a text a valid custom identifier? -/
def V (l : List UInt8) : Bool := !look genD (lowL l) && !look wideD (lowL l) && !(lowL l).isEmpty && wsi (S l) && (runesL l).all nmC
def VEnd (l : List UInt8) (w : World) (e : Ending) (w' : World) : Prop := e = .returned (.bool (V l)) ∧ Below w.heap.size w w'
/-- The loop over the runes: those ahead have passed. -/
def RunRel (s : ByteArray) (w : World) (k : Nat) (gk : Nat) (wx : World) : Prop :=
  ∃ pos : Nat, wx.heap[k]? = some (.stringIter s pos) ∧ Below w.heap.size w wx ∧ pos ≤ s.size ∧ gk = s.size - pos ∧ (runesL s.data.toList).all nmC = (runesL (s.data.toList.drop pos)).all nmC

set_option maxHeartbeats 8000000 in
set_option maxRecDepth 100000 in
theorem valid_any (s : ByteArray) (hs : s.size ≤ 1073741824) (b : Nat) (w : World) (hT : Tabs w) (hb : MapB genD b w) : Calls Tryd.prog 27 #[.string s, .map (some b)] w (VEnd s.data.toList w) := by
  have hl := mapD_length Lib.toLowerU s.data.toList
  change (lowL s.data.toList).length ≤ _ at hl
  rw [← Lib.size_eq] at hl
  have hlow := Tryd.strings_ToLower_any s w (by omega) hT.c hT.u
  change Calls Tryd.prog 30 #[.string s] w (fun e w' => e = .returned (.string (S (lowL s.data.toList))) ∧ Below w.heap.size w w') at hlow
  have hlk := fun wx (hx : Below w.heap.size w wx) => (hb.up hx).run (S (lowL s.data.toList)) (by rw [S_size]; unfold maxLen; omega)
  obtain ⟨bw, hcw, hmw⟩ := hT.k
  have hcx := fun (wx : World) (hx : Below w.heap.size w wx) => (hx.cell (World.block_lt_of_cell? w _ hcw)).trans hcw
  have hlw := fun wx (hx : Below w.heap.size w wx) => (hmw.up hx).run (S (lowL s.data.toList)) (by rw [S_size]; unfold maxLen; omega)
  have hws := fun wx (hx : Below w.heap.size w wx) => wouldStart_any s hs wx (hT.up hx)
  have hemp : (S (lowL s.data.toList)).toList.isEmpty = (lowL s.data.toList).isEmpty := by rw [S_toList]
  rw [S_data] at hlk hlw
  have hv : V s.data.toList = (!look genD (lowL s.data.toList) && !look wideD (lowL s.data.toList) && !(lowL s.data.toList).isEmpty && wsi s && (runesL s.data.toList).all nmC) := by unfold V; rw [S_L]
  obtain ⟨L, hL⟩ : ∃ L, S (lowL s.data.toList) = L := ⟨_, rfl⟩
  rw [hL] at hlow hlk hlw hemp
  obtain ⟨q1, e1⟩ : ∃ q, look genD (lowL s.data.toList) = q := ⟨_, rfl⟩
  obtain ⟨q2, e2⟩ : ∃ q, look wideD (lowL s.data.toList) = q := ⟨_, rfl⟩
  obtain ⟨q3, e3⟩ : ∃ q, (lowL s.data.toList).isEmpty = q := ⟨_, rfl⟩
  obtain ⟨q4, e4⟩ : ∃ q, wsi s = q := ⟨_, rfl⟩
  rw [e1, e2, e3, e4] at hv
  rw [e1] at hlk
  rw [e2] at hlw
  rw [e3] at hemp
  have H := Lib.hid (And.intro hlow (And.intro hlk (And.intro hlw (And.intro hws (And.intro hcx e4)))))
  clear hlow hlk hlw hws hcx hT hb hcw hmw hL e1 e2 e3 e4 hl
  cases q1
  case true =>
    have HV := Lib.hid hv
    clear hv hemp
    go_enter Tryd.func27, Tryd.ntmps27
    go_wp2_with fail
    refine H.out.1.mono ?_
    rintro e w1 ⟨rfl, hb1⟩
    have k1 := H.out.2.1 _ hb1
    have HB := Lib.hid hb1
    clear hb1
    go_wp2_with fail
    go_ret
    exact ⟨by rw [HV.out]; rfl, HB.out⟩
  cases q2
  case true =>
    have HV := Lib.hid hv
    clear hv hemp
    go_enter Tryd.func27, Tryd.ntmps27
    go_wp2_with fail
    refine H.out.1.mono ?_
    rintro e w1 ⟨rfl, hb1⟩
    have k1 := H.out.2.1 _ hb1
    have k2 := H.out.2.2.1 _ hb1
    have k3 := H.out.2.2.2.2.1 _ hb1
    have HB := Lib.hid hb1
    clear hb1
    go_wp2_with fail
    go_ret
    exact ⟨by rw [HV.out]; rfl, HB.out⟩
  cases q3
  case true =>
    have HV := Lib.hid hv
    clear hv
    go_enter Tryd.func27, Tryd.ntmps27
    go_wp2_with fail
    refine H.out.1.mono ?_
    rintro e w1 ⟨rfl, hb1⟩
    have k1 := H.out.2.1 _ hb1
    have k2 := H.out.2.2.1 _ hb1
    have k3 := H.out.2.2.2.2.1 _ hb1
    have HB := Lib.hid hb1
    clear hb1
    go_wp2_with fail
    go_ret
    exact ⟨by rw [HV.out]; rfl, HB.out⟩
  cases q4
  case false =>
    have HV := Lib.hid hv
    clear hv
    go_enter Tryd.func27, Tryd.ntmps27
    go_wp2_with fail
    refine H.out.1.mono ?_
    rintro e w1 ⟨rfl, hb1⟩
    have k1 := H.out.2.1 _ hb1
    have k2 := H.out.2.2.1 _ hb1
    have k3 := H.out.2.2.2.2.1 _ hb1
    have HB := Lib.hid hb1
    clear hb1
    go_wp2_with fail
    refine (H.out.2.2.2.1 _ HB.out).mono ?_
    rintro e w2 ⟨rfl, hb2⟩
    have HB2 := Lib.hid (HB.out.trans (hb2.mono HB.out.size))
    have h4 := H.out.2.2.2.2.2
    rw [h4]
    clear hb2 h4
    go_wp2_with fail
    go_ret
    exact ⟨by rw [HV.out]; rfl, HB2.out⟩
  have hv2 : V s.data.toList = (runesL s.data.toList).all nmC := by rw [hv]; simp
  have HV := Lib.hid hv2
  have hlen : s.data.toList.length = s.size := (Lib.size_eq s).symm
  have HLEN := Lib.hid hlen
  clear hv hv2 hlen
  go_enter Tryd.func27, Tryd.ntmps27
  go_wp2_with fail
  refine H.out.1.mono ?_
  rintro e w1 ⟨rfl, hb1⟩
  have k1 := H.out.2.1 _ hb1
  have k2 := H.out.2.2.1 _ hb1
  have k3 := H.out.2.2.2.2.1 _ hb1
  have HB := Lib.hid hb1
  clear hb1
  go_wp2_with fail
  refine (H.out.2.2.2.1 _ HB.out).mono ?_
  rintro e w2 ⟨rfl, hb2⟩
  have HB2 := Lib.hid (HB.out.trans (hb2.mono HB.out.size))
  have h4 := H.out.2.2.2.2.2
  rw [h4]
  clear hb2 h4 k1 k2 k3
  go_wp2_with fail
  go_loopg [] s.size (fun gk wx => RunRel s w w2.heap.size gk wx)
  case atStart =>
    refine ⟨0, ?_, ?_, Nat.zero_le _, rfl, by rw [List.drop_zero]⟩
    · exact World.iter_heap w2 s 0
    · exact HB2.out.trans ((iter_below w2 s 0).mono HB2.out.size)
  case round =>
    obtain ⟨pos, hit, hbw, hps, rfl, hall⟩ := hrel
    have hsz := hbw.size
    have hk2 : w.heap.size ≤ w2.heap.size := HB2.out.size
    by_cases hlt : pos < s.size
    · have hnx : ∀ ty, (Instr.next (.pointer (some ⟨w2.heap.size, 0, none⟩)) true ty).run Tryd.prog wr = _ := fun ty => Lib.run_next_any_at wr w2.heap.size s pos ty hit hlt
      have hne : s.data.toList.drop pos ≠ [] := by
        intro h0
        have := congrArg List.length h0
        rw [List.length_drop, HLEN.out] at this
        simp at this
        omega
      have hwd := Lib.width_pos s pos
      have hwn : pos + (Utf8.decode s pos).2 ≤ s.size := by
        have := Lib.decodeL_le _ hne
        rw [Lib.decodeL_drop, List.length_drop, HLEN.out] at this
        omega
      have hrl := Lib.rune_le s pos
      have hstep := runesL_step _ hne
      rw [Lib.decodeL_drop] at hstep
      obtain ⟨R, hR⟩ : ∃ R, (Utf8.decode s pos).1 = R := ⟨_, rfl⟩
      obtain ⟨K, hK⟩ : ∃ K, (Utf8.decode s pos).2 = K := ⟨_, rfl⟩
      rw [hR, hK] at hnx hstep
      rw [hK] at hwd hwn
      rw [hR] at hrl
      rw [List.drop_drop] at hstep
      rw [hstep, List.all_cons] at hall
      have hit2 := Lib.iterAt_heap wr w2.heap.size s pos (pos + K) hit
      have hbw2 := Lib.below_iterAt hbw (k := w2.heap.size) hk2 s (pos + K)
      obtain ⟨W, hWd⟩ : ∃ W, wr.iterAt w2.heap.size s (pos + K) = W := ⟨_, rfl⟩
      rw [hWd] at hnx hit2 hbw2
      have HX := Lib.hid (And.intro hit2 hbw2)
      have hN := nameCont_any (R : Int) (by omega) W
      clear hit hbw hWd hR hK hstep hit2 hbw2 hne
      cases hb : nmC (R : Int)
      · rw [hb] at hall hN
        have HA := Lib.hid (And.intro hall hN)
        clear hall hN hb
        go_wp2_with fail
        refine HA.out.2.mono ?_
        rintro e w3 ⟨rfl, rfl⟩
        go_wp2_with fail
        go_ret
        exact ⟨by rw [HV.out, HA.out.1]; rfl, HX.out.2⟩
      · rw [hb, Bool.true_and] at hall
        rw [hb] at hN
        have HA := Lib.hid (And.intro hall hN)
        clear hall hN hb
        go_wp2_with fail
        refine HA.out.2.mono ?_
        rintro e w3 ⟨rfl, rfl⟩
        go_wp2_with fail
        go_roundg (s.size - (pos + K))
        case measure => omega
        case rel => exact ⟨pos + K, HX.out.1, HX.out.2, hwn, rfl, HA.out.1⟩
    · have hnx : ∀ ty, (Instr.next (.pointer (some ⟨w2.heap.size, 0, none⟩)) true ty).run Tryd.prog wr = _ := fun ty => Lib.run_next_end_at wr w2.heap.size s pos ty hit hlt
      have hd : s.data.toList.drop pos = [] := List.drop_eq_nil_of_le (by rw [HLEN.out]; omega)
      rw [hd] at hall
      have HA := Lib.hid (And.intro hall hbw)
      clear hall hbw hit hd
      go_wp2_with fail
      go_ret
      exact ⟨by rw [HV.out, HA.out.1]; rfl, HA.out.2⟩
end Go.Proofs.YtjinajfejbpicaaDoor
