/-
  The walk of the law that the base name of a path outside the file system is clean; conditions: what the listed tables hold.
-/
import Derived.Test.YtejdbjfniepomaaDoorOutw
namespace Go.Proofs.YtejdbjfniepomaaDoor
open Go.RowKit

theorem ans_len : ∀ (rs : List Int) (st g : Bool), (ansOf st g rs).length ≤ 5 * rs.length
  | [], _, _ => by rw [ans_nil]; simp
  | r :: rs, st, g => by
    have h4 := enc_len r
    have h1 := ans_len rs true false
    have h2 := ans_len rs st (st || g)
    rw [List.length_cons]
    cases hb : badR r
    · cases g
      · rw [ans_good _ _ _ hb, List.length_append]; omega
      · rw [ans_good_gap _ _ _ hb, List.length_cons, List.length_append]; omega
    · rw [ans_bad _ _ _ _ hb]; omega
theorem runes_len : ∀ (n : Nat) (l : List UInt8), l.length ≤ n → (runesL l).length ≤ l.length
  | 0, l, h => by
    obtain rfl : l = [] := List.eq_nil_of_length_eq_zero (by omega)
    exact Nat.le_refl _
  | n + 1, l, h => by
    by_cases hne : l = []
    · subst hne
      exact Nat.le_refl _
    · have hw := Lib.decodeL_width l
      have hl : 0 < l.length := List.length_pos_iff.2 hne
      have ih := runes_len n (l.drop (Lib.decodeL l).2) (by rw [List.length_drop]; omega)
      rw [runesL_step l hne, List.length_cons]
      rw [List.length_drop] at ih
      omega
theorem san_len (l : List UInt8) : (san l).length ≤ 5 * l.length + 1 := by
  have h1 := ans_len (runesL l) false false
  have h2 := runes_len l.length l (Nat.le_refl _)
  rw [san_ans]
  split
  · simp
  · omega

def SomeBool (w : World) (e : Ending) (w' : World) : Prop := (∃ z, e = .returned (.bool z)) ∧ w = w'
theorem zz9_any (a b : ByteArray) (c : Bool) (w : World) (ha : a.size ≤ maxLen) (hb : b.size ≤ maxLen) : Calls Tryd.prog 9 #[.string a, .string b, .bool c] w (SomeBool w) := by
  unfold maxLen at ha hb
  go_enter Tryd.func9, Tryd.ntmps9
  go_wp2
  all_goals (go_ret; exact ⟨⟨_, rfl⟩, rfl⟩)
theorem zz5_any (a b : ByteArray) (c : Bool) (w : World) (ha : a.size ≤ maxLen) (hb : b.size ≤ maxLen) : Calls Tryd.prog 5 #[.string a, .string b, .bool c] w (SomeBool w) := by
  unfold maxLen at ha hb
  go_enter Tryd.func5, Tryd.ntmps5
  go_wp2
  all_goals (go_ret; exact ⟨⟨_, rfl⟩, rfl⟩)

def CleanRel (N : ByteArray) (w : World) (gk : Nat) (wx : World) : Prop :=
  ∃ pos : Nat, wx.heap[w.heap.size]? = some (.stringIter N pos) ∧ Below w.heap.size w wx ∧ N.size ≤ pos + gk ∧ pos ≤ N.size ∧ ∀ r ∈ runesL (N.data.toList.drop pos), badR r = false

set_option maxHeartbeats 8000000 in
set_option maxRecDepth 100000 in
theorem fnPathRelativeToOutbaseVirtualCleanName_walk (a b : ByteArray) (c : Bool) (w : World) (ha : a.size ≤ maxLen) (hb : b.size ≤ maxLen) (hT : Tabs w) :
    Calls Tryd.prog 4 #[.string a, .string b, .bool c] w fun e w' => e = .returned (.bool true) ∧ Below w.heap.size w w' := by
  have HT := Lib.hid hT
  have HZ := Lib.hid (zz9_any a b c w ha hb)
  clear hT ha hb
  by_cases h5 : a.size ≤ 524288 ∧ b.size ≤ 524288
  · obtain ⟨h5, h6⟩ := h5
    cases hF : (b.toList == [102, 105, 108, 101])
    · go_enter Tryd.func4, Tryd.ntmps4
      go_wp2_with fail
      refine HZ.out.mono ?_
      rintro e w' ⟨⟨z, rfl⟩, rfl⟩
      cases z
      · go_wp2_with fail
        go_ret
        exact ⟨rfl, Below.refl _ _⟩
      · go_wp2_with fail
        refine (virt_any a b c _ HT.out (by omega) hF).mono ?_
        rintro e w2 ⟨⟨x, rfl, hx, _⟩, hb2⟩
        have hN0 : (S (san x.data.toList)).data.toList = san x.data.toList := S_data _
        have hNs := san_len x.data.toList
        have hNe : 0 < (S (san x.data.toList)).size := by rw [S_size]; exact List.length_pos_iff.2 (san_ne _)
        have hNl : (S (san x.data.toList)).size ≤ 4194304 := by rw [S_size]; rw [← Lib.size_eq] at hNs; omega
        have hfree : ∀ r ∈ runesL ((S (san x.data.toList)).data.toList.drop 0), badR r = false := by rw [hN0]; exact san_free _
        have hsh := fun wx => shim11 (S (san x.data.toList)) wx hNl
        rw [hN0, san_idem] at hsh
        clear hN0 hNs
        obtain ⟨N, hN⟩ : ∃ N, S (san x.data.toList) = N := ⟨_, rfl⟩
        rw [hN] at hNe hNl hfree hsh ⊢
        have HS := Lib.hid (And.intro hsh (And.intro hfree hb2))
        clear hN hsh hfree hb2
        have t0 : ((N.size : Int) == 0) = false := by rw [beq_eq_false_iff_ne]; omega
        go_wp2_with fail
        go_loopg [10] N.size (fun gk _ wx => CleanRel N w2 gk wx)
        case atStart =>
          refine ⟨0, by simpa using World.iter_heap w2 N 0, iter_below _ N 0, by omega, by omega, HS.out.2.1⟩
        case round =>
          obtain ⟨pos, hit, hbw, hfu, hps, hfr⟩ := hrel
          have hlen : N.data.toList.length = N.size := (Lib.size_eq N).symm
          by_cases hlt : pos < N.size
          · obtain ⟨g', rfl⟩ : ∃ g', gk = g' + 1 := ⟨gk - 1, by omega⟩
            have hnx : ∀ ty, (Instr.next (.pointer (some ⟨w2.heap.size, 0, none⟩)) true ty).run Tryd.prog wr = _ := fun ty => Lib.run_next_any_at wr w2.heap.size N pos ty hit hlt
            have hne : N.data.toList.drop pos ≠ [] := by
              intro h0
              have := congrArg List.length h0
              rw [List.length_drop, hlen] at this
              simp at this
              omega
            have hwd := Lib.width_pos N pos
            have hwn : pos + (Utf8.decode N pos).2 ≤ N.size := by
              have := Lib.decodeL_le _ hne
              rw [Lib.decodeL_drop, List.length_drop, hlen] at this
              omega
            have hstep := runesL_step _ hne
            rw [Lib.decodeL_drop, List.drop_drop] at hstep
            rw [hstep] at hfr
            have hit2 := Lib.iterAt_heap wr w2.heap.size N pos (pos + (Utf8.decode N pos).2) hit
            have hbw2 := Lib.below_iterAt hbw (k := w2.heap.size) (Nat.le_refl _) N (pos + (Utf8.decode N pos).2)
            have hr1 := hfr _ List.mem_cons_self
            have hr2 := fun r (h : r ∈ runesL (N.data.toList.drop (pos + (Utf8.decode N pos).2))) => hfr r (List.mem_cons_of_mem _ h)
            obtain ⟨R, hR⟩ : ∃ R, (Utf8.decode N pos).1 = R := ⟨_, rfl⟩
            obtain ⟨K, hK⟩ : ∃ K, (Utf8.decode N pos).2 = K := ⟨_, rfl⟩
            rw [hR] at hr1 hnx
            rw [hK] at hnx hit2 hbw2 hr2 hwd hwn
            obtain ⟨W, hWd⟩ : ∃ W, wr.iterAt w2.heap.size N (pos + K) = W := ⟨_, rfl⟩
            rw [hWd] at hnx hit2 hbw2
            have HW := Lib.hid (And.intro hit2 (And.intro hbw2 hr2))
            have hf := fun wx => forb_no (R : Int) wx hr1
            clear hit hbw hfr hne hstep hit2 hbw2 hr1 hr2 hR hK hWd hlen
            go_wp2_with (go_at_call 10; refine (hf _).mono ?_; rintro e w' ⟨rfl, rfl⟩)
            go_roundg g'
            case measure => omega
            case rel => exact ⟨pos + K, HW.out.1, HW.out.2.1, by omega, hwn, HW.out.2.2⟩
          · obtain rfl : pos = N.size := by omega
            have hnx : ∀ ty, (Instr.next (.pointer (some ⟨w2.heap.size, 0, none⟩)) true ty).run Tryd.prog wr = _ := fun ty => Lib.run_next_end_at wr w2.heap.size N N.size ty hit (by omega)
            have HW := Lib.hid hbw
            clear hit hbw hfr hlen
            go_wp2_with fail
            refine (HS.out.1 _).mono ?_
            rintro e w3 ⟨rfl, hb3⟩
            have hbb := HS.out.2.2.trans ((HW.out.trans (hb3.mono HW.out.size)).mono HS.out.2.2.size)
            clear hb3
            go_wp2_with fail
            go_ret
            exact ⟨by first | rfl | simp, hbb⟩
    · go_enter Tryd.func4, Tryd.ntmps4
      go_wp2_with fail
      refine HZ.out.mono ?_
      rintro e w' ⟨⟨z, rfl⟩, rfl⟩
      cases z
      all_goals (
        go_wp2_with fail
        go_ret
        exact ⟨rfl, Below.refl _ _⟩)
  · by_cases h6 : a.size ≤ 524288
    · have h7 : ¬ b.size ≤ 524288 := fun h => h5 ⟨h6, h⟩
      clear h5
      go_enter Tryd.func4, Tryd.ntmps4
      go_wp2_with fail
      refine HZ.out.mono ?_
      rintro e w' ⟨⟨z, rfl⟩, rfl⟩
      cases z
      all_goals (
        go_wp2_with fail
        go_ret
        exact ⟨rfl, Below.refl _ _⟩)
    · clear h5
      go_enter Tryd.func4, Tryd.ntmps4
      go_wp2_with fail
      refine HZ.out.mono ?_
      rintro e w' ⟨⟨z, rfl⟩, rfl⟩
      cases z
      all_goals (
        go_wp2_with fail
        go_ret
        exact ⟨rfl, Below.refl _ _⟩)

end Go.Proofs.YtejdbjfniepomaaDoor
