/-
  The walk of the law that an indented comment never emits a closing style tag; conditions: what the listed tables hold.
-/
import Derived.Test.YtalnapcphdmjaaaDoorHas
import Derived.Deep.QuietTactic
import Derived.BigQuiet
namespace Go.Proofs.YtalnapcphdmjaaaDoor
open Go.RowKit

theorem owns_in {w : World} {B : Nat} {a : Option Addr} {len cap : Nat} {xs : List Value} (h : w.ownsRow B 5 1 (.slice a len cap) xs.length xs) : InRow w a len cap xs ∧ len = xs.length := by
  rcases h.2 with ⟨e, h0⟩ | ⟨g, c, cur, hv, hg, hh, h1, h2, hs, ht⟩
  · injection e with e1 e2 e3
    subst e1; subst e2; subst e3
    exact ⟨.inl ⟨rfl, rfl, rfl, List.eq_nil_of_length_eq_zero h0⟩, h0.symm⟩
  · injection hv with e1 e2 e3
    subst e1; subst e2; subst e3
    refine ⟨.inr ⟨_, rfl, h1, h2, rfl, fun i u hu => ?_⟩, rfl⟩
    have hi := (List.getElem?_eq_some_iff.1 hu).1
    rw [Nat.mul_one] at ht
    have ha : (⟨g, 0, none⟩ : Addr).add i = ⟨g, i, none⟩ := by unfold Addr.add; split <;> simp_all
    rw [ha, Lib.cell_of_heap hh i, ← Array.getElem?_toList, ← List.getElem?_take_of_lt hi, ht, hu]

theorem lv_le (n lim : Int) (hn : n ≤ 65536) : lv n lim ≤ 65536 := by
  unfold lv
  split
  · rename_i h
    rw [Int.tdiv_eq_ediv_of_nonneg (by omega)]
    omega
  · omega
theorem newlines_le : ∀ l : List UInt8, newlines l ≤ l.length
  | [] => Nat.le_refl _
  | c :: r => by
    have := newlines_le r
    rw [newlines_cons, List.length_cons]
    split <;> omega

theorem in_get0 : True := trivial
theorem tail_in {w : World} {ag : Option Addr} {n cg : Nat} {l R : List UInt8} (hl : l.length = n) (h : InRow w ag (n + R.length) cg (Lib.byteCells (l ++ R))) : InRow w (Option.map (fun x => x.add n) ag) R.length (cg - n) (Lib.byteCells R) := by
  rcases h with ⟨h1, h2, h3, h4⟩ | ⟨x, h1, h2, h3, h4, h5⟩
  · subst h1
    have hR : R = [] := List.eq_nil_of_length_eq_zero (by omega)
    subst hR
    exact .inl ⟨rfl, rfl, by omega, rfl⟩
  · subst h1
    refine .inr ⟨x.add n, rfl, by omega, by omega, Lib.byteCells_length _, fun i u hu => ?_⟩
    have := h5 (n + i) u (by rw [Lib.byteCells_append, List.getElem?_append_right (by rw [Lib.byteCells_length, hl]; omega), Lib.byteCells_length, hl, Nat.add_sub_cancel_left]; exact hu)
    have e : (x.add n).add i = x.add (n + i) := by
      unfold Addr.add
      split <;> split <;> split <;> simp_all <;> omega
    rw [e]
    exact this
theorem tail_in0 {w : World} {ag : Option Addr} {n cg : Nat} {l R : List UInt8} (hc : cg ≤ n) (h : InRow w ag (n + R.length) cg (Lib.byteCells (l ++ R))) : InRow w ag R.length 0 (Lib.byteCells R) := by
  have hR : R = [] := List.eq_nil_of_length_eq_zero (by have := h.cap; omega)
  subst hR
  cases ag with
  | none => exact .inl ⟨rfl, rfl, rfl, rfl⟩
  | some x => exact .inr ⟨x, rfl, Nat.le_refl _, Nat.zero_le _, rfl, fun i u hu => by cases hu⟩
theorem has_list (R : List UInt8) (a : Option Addr) (cap : Nat) (w : World) {w0 : World} (h : InRow w0 a R.length cap (Lib.byteCells R)) (hs : R.length ≤ 1099511627776) (hc : clean styleTag R = true) (hw : w.heap = w0.heap := by rfl) :
    Calls Tryd.prog 10 #[.slice a R.length cap] w fun e w' => e = .returned (.bool false) ∧ w = w' := by
  have hcell : ∀ p, w.cell? p = w0.cell? p := fun p => by unfold World.cell?; rw [hw]
  have h' : InRow w a R.length cap (Lib.byteCells R) := by
    rcases h with h | ⟨x, h1, h2, h3, h4, h5⟩
    · exact .inl h
    · exact .inr ⟨x, h1, h2, h3, h4, fun i u hu => (hcell _).trans (h5 i u hu)⟩
  have := has_none (S R) a cap w (by rw [S_size, S_data]; exact h') (by rw [S_size]; exact hs) (by rw [S_data]; exact hc)
  rwa [S_size] at this
theorem in_get {w : World} {a : Option Addr} {len cap : Nat} {l : List UInt8} (h : InRow w a len cap (Lib.byteCells l)) {k : Nat} (hk : k < len) : ∃ x b, a = some x ∧ l[k]? = some b ∧ w.cell? (x.add k) = some (.int .u8 b.toNat) := by
  have hl := h.len
  rw [Lib.byteCells_length] at hl
  rcases h with ⟨_, h0, _⟩ | ⟨x, hx, _, _, _, hc⟩
  · omega
  · refine ⟨x, l[k], hx, List.getElem?_eq_getElem (by omega), hc k _ ?_⟩
    unfold Lib.byteCells
    rw [List.getElem?_map, List.getElem?_eq_getElem (by omega)]
    rfl

set_option maxHeartbeats 2000000 in
set_option maxRecDepth 100000 in
theorem never_full (mini : Bool) (lim : Int) (a : Option Addr) (len cap : Nat) (l : List UInt8) (n : Int) (text : ByteArray) (w : World) (hT : Tabs w) (hin : InRow w a len cap (Lib.byteCells l)) (hsum : len + text.size ≤ 1048576) (hn0 : -2147483648 ≤ n) (hn : n ≤ 65536) (hlim : -9223372036854775808 ≤ lim ∧ lim ≤ 9223372036854775807)
    (hprod : mini = false → newlines text.data.toList * lv n lim ≤ 262144) :
    Calls Tryd.prog 3 #[.bool mini, .int .i64 lim, .slice a len cap, .int .i32 n, .string text] w fun e w' => e = .returned (.bool true) ∧ Below w.heap.size w w' := by
  have hlen := hin.len
  rw [Lib.byteCells_length] at hlen
  have hE := esc_length styleTag text.data.toList
  rw [← Lib.size_eq] at hE
  have hbd : l.length + ((esc styleTag text.data.toList).length + newlines text.data.toList * (2 * (if mini then 0 else lv n lim))) ≤ 1000000000 := by
    cases mini
    · have := hprod rfl
      simp only [Bool.false_eq_true, if_false]
      rw [Nat.mul_left_comm]
      omega
    · simp only [if_true]
      omega
  have H := Lib.hid (And.intro hT (And.intro hin (And.intro hbd hlen)))
  have hK : lv n lim ≤ 65536 := lv_le n lim hn
  have hC : newlines text.data.toList ≤ 1048576 := by have := newlines_le text.data.toList; rw [← Lib.size_eq] at this; omega
  clear hT hin hbd hlen hE
  have hlv := levels_any n lim
  have hct := count_any text
  obtain ⟨R, hR⟩ : ∃ R, cmt mini n lim (esc styleTag text.data.toList) = R := ⟨_, rfl⟩
  have hRL : R.length ≤ 1000000000 := by
    rw [← hR]
    unfold cmt
    rw [lay_length, newlines_esc]
    have := H.out.2.2.1
    omega
  have HRL := Lib.hid hRL
  clear hRL
  have hclean : clean styleTag R = true := by rw [← hR]; exact clean_all _ _
  have hzz := fun B v w1 hT1 ho hB => zz_styled B mini lim l v n text w1 hT1 hn0 hn hlim ho hB (by omega) H.out.2.2.1
  rw [hR] at hzz
  have HC := Lib.hid (And.intro hclean (And.intro hlv (And.intro hct hzz)))
  clear hclean hlv hct hzz hR
  obtain ⟨K, hKe⟩ : ∃ K, lv n lim = K := ⟨_, rfl⟩
  obtain ⟨C, hCe⟩ : ∃ C, newlines text.data.toList = C := ⟨_, rfl⟩
  rw [hKe, hCe] at hprod HC
  rw [hKe] at hK
  rw [hCe] at hC
  have m0 : C * K ≤ 1048576 * 65536 := Nat.mul_le_mul hC hK
  obtain ⟨M, hM⟩ : ∃ M, C * K = M := ⟨_, rfl⟩
  rw [hM] at m0 hprod
  have hMi : (C : Int) * (K : Int) = (M : Int) := by rw [← hM]; exact (Int.natCast_mul C K).symm
  cases mini
  · have hp := hprod rfl
    clear hprod
    go_enter Tryd.func3, Tryd.ntmps3
    go_wp2_with (go_at_call 5; refine (zz5_yes _ lim a len cap n text _ hsum).mono ?_; rintro e w' ⟨rfl, rfl⟩)
    refine (HC.out.2.1 _ hn0 hn hlim).mono ?_
    rintro e w' ⟨rfl, rfl⟩
    go_wp2_with (go_at_call 7; refine (HC.out.2.2.1 _ (by omega)).mono ?_; rintro e w' ⟨rfl, rfl⟩)
    refine (clone_any w.heap.size a len cap l _ H.out.2.1 (by omega) (Nat.le_refl _)).mono ?_
    rintro e w1 ⟨a1, len1, cap1, rfl, ho1, hb1⟩
    obtain ⟨hi1, hl1⟩ := owns_in ho1
    rw [Lib.byteCells_length, H.out.2.2.2] at hl1
    subst hl1
    have hT1 := H.out.1.up hb1
    clear ho1
    go_wp2_with fail
    refine (clone_any w1.heap.size a1 len1 cap1 l _ hi1 (by omega) (Nat.le_refl _)).mono ?_
    rintro e w2 ⟨a2, len2, cap2, rfl, ho2, hb2⟩
    go_wp2_with fail
    refine (HC.out.2.2.2 w1.heap.size (.slice a2 len2 cap2) _ (hT1.up hb2) ho2 hb2.size).mono ?_
    rintro e w3 ⟨ag, lg, cg, rfl, ho3, hb3⟩
    obtain ⟨hig, hlg⟩ := owns_in ho3
    rw [Lib.byteCells_length, List.length_append, H.out.2.2.2] at hlg
    subst hlg
    have hb23 := hb2.trans hb3
    have HB := Lib.hid (And.intro (hi1.up hb23) (And.intro hig (hb1.trans (hb23.mono hb1.size))))
    clear hi1 hb1 ho2 hb2 ho3 hig hb3 hb23 hT1
    go_wp2_with fail
    go_loopw [13] (fun i wr => ∃ k q : Nat, k ≤ len1 ∧ i = .int .i64 k ∧ w3.drewN q = wr) (fun i _ => len1 - (intOf i).toNat)
    case atStart => exact ⟨0, 0, Nat.zero_le _, rfl, rfl⟩
    case round =>
      obtain ⟨k, q, hk, rfl, rfl⟩ := hrel
      by_cases hlt : k < len1
      · obtain ⟨x1, b1, rfl, e1, c1⟩ := in_get HB.out.1 (show k < len1 from hlt)
        obtain ⟨xg, b2, rfl, e2, c2⟩ := in_get HB.out.2.1 (show k < len1 + R.length by omega)
        have hbb : b2 = b1 := by
          rw [List.getElem?_append_left (by rw [H.out.2.2.2]; exact hlt), e1] at e2
          exact (Option.some.inj e2).symm
        subst hbb
        clear e1 e2
        have t1 : (0 : Int) ≤ (k : Int) := by omega
        have t2 : (k : Int) < (len1 : Int) := by omega
        have t3 : (k : Int) < ((len1 + R.length : Nat) : Int) := by omega
        go_wp2_with fail
        go_quiet (fail)
        go_wp2_with fail
        first | exact ⟨⟨k + 1, q + nq, by omega, by go_num, rfl⟩, by simp [intOf]; omega⟩ | exact ⟨⟨k + 1, by omega, by go_num, q + nq, by simp⟩, by simp [intOf]; omega⟩ | exact ⟨⟨k + 1, q + nq, by omega, by go_num, by simp⟩, by simp [intOf]; omega⟩
      · go_wp2_with fail
        · refine (has_list R ag 0 _ (tail_in0 (by omega) (HB.out.2.1)) (by have := HRL.out; omega) HC.out.1).mono ?_
          rintro e w' ⟨rfl, rfl⟩
          go_wp2_with fail
          go_ret
          exact ⟨rfl, HB.out.2.2.trans ⟨rfl, rfl, rfl, Nat.le_refl _, fun _ _ => rfl⟩⟩
        · refine (has_list R _ _ _ (tail_in H.out.2.2.2 (HB.out.2.1)) (by have := HRL.out; omega) HC.out.1).mono ?_
          rintro e w' ⟨rfl, rfl⟩
          go_wp2_with fail
          go_ret
          exact ⟨rfl, HB.out.2.2.trans ⟨rfl, rfl, rfl, Nat.le_refl _, fun _ _ => rfl⟩⟩
  · go_enter Tryd.func3, Tryd.ntmps3
    go_wp2_with (go_at_call 5; refine (zz5_yes _ lim a len cap n text _ hsum).mono ?_; rintro e w' ⟨rfl, rfl⟩)
    refine (HC.out.2.1 _ hn0 hn hlim).mono ?_
    rintro e w' ⟨rfl, rfl⟩
    go_wp2_with fail
    refine (clone_any w.heap.size a len cap l _ H.out.2.1 (by omega) (Nat.le_refl _)).mono ?_
    rintro e w1 ⟨a1, len1, cap1, rfl, ho1, hb1⟩
    obtain ⟨hi1, hl1⟩ := owns_in ho1
    rw [Lib.byteCells_length, H.out.2.2.2] at hl1
    subst hl1
    have hT1 := H.out.1.up hb1
    clear ho1
    go_wp2_with fail
    refine (clone_any w1.heap.size a1 len1 cap1 l _ hi1 (by omega) (Nat.le_refl _)).mono ?_
    rintro e w2 ⟨a2, len2, cap2, rfl, ho2, hb2⟩
    go_wp2_with fail
    refine (HC.out.2.2.2 w1.heap.size (.slice a2 len2 cap2) _ (hT1.up hb2) ho2 hb2.size).mono ?_
    rintro e w3 ⟨ag, lg, cg, rfl, ho3, hb3⟩
    obtain ⟨hig, hlg⟩ := owns_in ho3
    rw [Lib.byteCells_length, List.length_append, H.out.2.2.2] at hlg
    subst hlg
    have hb23 := hb2.trans hb3
    have HB := Lib.hid (And.intro (hi1.up hb23) (And.intro hig (hb1.trans (hb23.mono hb1.size))))
    clear hi1 hb1 ho2 hb2 ho3 hig hb3 hb23 hT1
    go_wp2_with fail
    go_loopw [13] (fun i wr => ∃ k q : Nat, k ≤ len1 ∧ i = .int .i64 k ∧ w3.drewN q = wr) (fun i _ => len1 - (intOf i).toNat)
    case atStart => exact ⟨0, 0, Nat.zero_le _, rfl, rfl⟩
    case round =>
      obtain ⟨k, q, hk, rfl, rfl⟩ := hrel
      by_cases hlt : k < len1
      · obtain ⟨x1, b1, rfl, e1, c1⟩ := in_get HB.out.1 (show k < len1 from hlt)
        obtain ⟨xg, b2, rfl, e2, c2⟩ := in_get HB.out.2.1 (show k < len1 + R.length by omega)
        have hbb : b2 = b1 := by
          rw [List.getElem?_append_left (by rw [H.out.2.2.2]; exact hlt), e1] at e2
          exact (Option.some.inj e2).symm
        subst hbb
        clear e1 e2
        have t1 : (0 : Int) ≤ (k : Int) := by omega
        have t2 : (k : Int) < (len1 : Int) := by omega
        have t3 : (k : Int) < ((len1 + R.length : Nat) : Int) := by omega
        go_wp2_with fail
        go_quiet (fail)
        go_wp2_with fail
        first | exact ⟨⟨k + 1, q + nq, by omega, by go_num, rfl⟩, by simp [intOf]; omega⟩ | exact ⟨⟨k + 1, by omega, by go_num, q + nq, by simp⟩, by simp [intOf]; omega⟩ | exact ⟨⟨k + 1, q + nq, by omega, by go_num, by simp⟩, by simp [intOf]; omega⟩
      · go_wp2_with fail
        · refine (has_list R ag 0 _ (tail_in0 (by omega) (HB.out.2.1)) (by have := HRL.out; omega) HC.out.1).mono ?_
          rintro e w' ⟨rfl, rfl⟩
          go_wp2_with fail
          go_ret
          exact ⟨rfl, HB.out.2.2.trans ⟨rfl, rfl, rfl, Nat.le_refl _, fun _ _ => rfl⟩⟩
        · refine (has_list R _ _ _ (tail_in H.out.2.2.2 (HB.out.2.1)) (by have := HRL.out; omega) HC.out.1).mono ?_
          rintro e w' ⟨rfl, rfl⟩
          go_wp2_with fail
          go_ret
          exact ⟨rfl, HB.out.2.2.trans ⟨rfl, rfl, rfl, Nat.le_refl _, fun _ _ => rfl⟩⟩

end Go.Proofs.YtalnapcphdmjaaaDoor
