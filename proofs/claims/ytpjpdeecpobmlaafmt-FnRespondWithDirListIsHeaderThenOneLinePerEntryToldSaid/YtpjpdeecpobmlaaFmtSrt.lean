/-
  The contract of zzSortedDistinct: the texts sorted, the repeats dropped; conditions: the sizes that it names.
-/
import Derived.Test.YtpjpdeecpobmlaaFmtMrg
import Derived.Test.YtpjpdeecpobmlaaFmtGrd
import Derived.Test.YtpjpdeecpobmlaaFmtRow
import Derived.Deep.QuietTactic
import Derived.BigQuiet
import Derived.Laws.Cover1
import Derived.Sort.Walk0
namespace Go.Proofs.YtpjpdeecpobmlaaFmt
open Go.RowKit Go.Maps Go.Sort

/-- Block g is a row of strings that reads as A. -/
def LRow (w : World) (g : Nat) (A : LB) : Prop := Row w g 9 A.length (fun i => .string (S (A.getD i [])))
theorem LRow.cell {w : World} {g : Nat} {A : LB} (h : LRow w g A) {i : Nat} {x : List UInt8} (hx : A[i]? = some x) : w.cell? ⟨g, i, none⟩ = some (.string (S x)) := by
  have hi := (List.getElem?_eq_some_iff.1 hx).1
  rw [Row.cell h hi, List.getD_eq_getElem?_getD, hx]
  rfl
theorem LRow.some {w : World} {g : Nat} {A : LB} (h : LRow w g A) {i : Nat} (hi : i < A.length) : w.cell? ⟨g, i, none⟩ = some (.string (S (A.getD i []))) := Row.cell h hi
theorem LRow.set {w : World} {g : Nat} {A : LB} (h : LRow w g A) (k : Nat) (x : List UInt8) : LRow (w.setCell ⟨g, k, none⟩ (.string (S x))) g (A.set k x) := by
  unfold LRow
  rw [List.length_set]
  refine (Row.set h k _).congr fun i hi => ?_
  by_cases e : i = k
  · subst e
    simp [List.getD_eq_getElem?_getD, List.getElem?_set_self hi]
  · simp [e, List.getD_eq_getElem?_getD, List.getElem?_set_ne (Ne.symm e)]

theorem lrow_made {w w' : World} {B n : Nat} (h : w'.ownsRow B 9 1 (.slice (some ⟨w.heap.size, 0, none⟩) n n) n (madeCells (Value.string ⟨#[]⟩).cells (n * 1)).toList) : LRow w' w.heap.size (List.replicate n []) := by
  have r := row_made (size := 1) (f := fun _ => .string ⟨#[]⟩) rfl (by decide) (fun i _ => by rw [Nat.mod_one]; rfl) h
  rw [Nat.mul_one] at r
  unfold LRow
  rw [List.length_replicate]
  refine r.congr fun i hi => ?_
  simp [List.getD_eq_getElem?_getD, hi, S]
theorem copy_next {n k : Nat} {xs : LB} {x : List UInt8} (hl : xs.length = n) (hx : xs[k]? = some x) : (xs.take k ++ List.replicate (n - k) []).set k x = xs.take (k + 1) ++ List.replicate (n - (k + 1)) [] := by
  obtain ⟨hk, rfl⟩ := List.getElem?_eq_some_iff.1 hx
  rw [List.take_succ_eq_append_getElem hk, List.set_append_right _ _ (by rw [List.length_take]; omega), List.length_take, Nat.min_eq_left (by omega), Nat.sub_self, show n - k = (n - (k + 1)) + 1 by omega, List.replicate_succ, List.set_cons_zero, List.append_assoc]
  rfl

theorem leB_no {x y : List UInt8} (h1 : Op.bytesLess (S x).toList (S y).toList = false) (h2 : ((S x).toList == (S y).toList) = false) : leB x y = false := by
  rw [S_toList, S_toList] at h1 h2
  rw [bytesLess_eq, decide_eq_false_iff_not] at h1
  rw [leB, decide_eq_false_iff_not]
  intro h
  have h3 := beq_eq_false_iff_ne.1 h2
  exact h3 (List.le_antisymm h (List.not_lt.1 h1))
theorem leB_eq {x y : List UInt8} (h2 : ((S x).toList == (S y).toList) = true) : leB x y = true := by
  rw [S_toList, S_toList] at h2
  have := beq_iff_eq.1 h2
  subst this
  rw [leB, decide_eq_true_eq]
  exact List.le_refl _
theorem leB_lt {x y : List UInt8} (h1 : Op.bytesLess (S x).toList (S y).toList = true) : leB x y = true := by
  rw [S_toList, S_toList, bytesLess_eq, decide_eq_true_eq] at h1
  rw [leB, decide_eq_true_eq]
  exact List.le_of_lt h1
theorem below_drawn {B : Nat} {w w' : World} (h : Below B w w') (n : Nat) : Below B w (w'.drewN n) := h.trans ⟨rfl, rfl, rfl, Nat.le_refl _, fun _ _ => rfl⟩

theorem own_far {w w0 : World} {g n : Nat} {v : Value} {xs : List Value} {A : LB} (h : w.ownsRow w0.heap.size 9 1 v n xs) (hr : LRow w0 g A) : some g ≠ v.ownBlock := fun e => by
  have h1 := (h.lt g e.symm).1
  have h2 := Row.lt hr
  omega
/-- The texts sorted, the repeats dropped, in a row of the call's own. -/
def SrtEnd (xs : LB) (w : World) (e : Ending) (w' : World) : Prop := ∃ g cap, e = .returned (.slice (some ⟨g, 0, none⟩) (sd xs).length cap) ∧ SRow w' g (sd xs) ∧ Below w.heap.size w w'

set_option maxHeartbeats 8000000 in
set_option maxRecDepth 100000 in
theorem sorted_any (a : Option Addr) (n cap : Nat) (ss : List ByteArray) (xs : LB) (w : World) (h : InRow w a n cap (ss.map Value.string)) (hx : xs = ss.map fun s => s.data.toList) (hn : n ≤ 4096) :
    Calls Tryf.prog 10 #[.slice a n cap] w (SrtEnd xs w) := by
  have hlen := h.len
  rw [List.length_map] at hlen
  obtain ⟨i0, hi, hz0, hz1, hz2⟩ := info_parts info9
  have HI := Lib.hid (And.intro hi (And.intro hz0 (And.intro hz1 hz2)))
  have H0 := Lib.hid h
  have HL := Lib.hid (And.intro hlen hx)
  clear hi hz0 hz1 hz2 h hlen hx
  go_enter Tryf.func10, Tryf.ntmps10
  go_upto_block 0 with (at_make; refine wpList_make_full _ rfl (.tmp 18) (.tmp 18) 22 rfl w.heap.size 9 i0 (.string ⟨#[]⟩) 1 Tryf.underlying22 HI.out.1 HI.out.2.1 HI.out.2.2.1 _ _ _ _ n rfl rfl rfl rfl (by rw [HI.out.2.2.2]; omega) (by unfold maxLen; omega) (Nat.le_refl _) ?_; intro w2 hown hgrow)
  have R0 := Lib.hid (And.intro (lrow_made hown) ((Below.refl _ _).grown hgrow (Nat.le_refl _) (fun k hk => by cases hk)))
  clear hown hgrow
  obtain ⟨ga, hga⟩ : ∃ g, g = w.heap.size := ⟨_, rfl⟩
  rw [← hga] at R0 ⊢
  have HG := Lib.hid hga
  have hxl : xs.length = n := by rw [HL.out.2, List.length_map]; exact HL.out.1
  clear hga
  go_cut [] from 20 (fun wx => LRow wx ga xs ∧ Below ga w wx)
  case first =>
    go_wp2_with fail
    go_loopw [5] (fun s5 wr => ∃ k : Nat, s5 = .int .i64 k ∧ k ≤ n ∧ LRow wr ga (xs.take k ++ List.replicate (n - k) []) ∧ Below ga w wr) (fun s5 _ => n - (intOf s5).toNat)
    case atStart => exact ⟨0, rfl, Nat.zero_le _, by simpa using R0.out.1, R0.out.2⟩
    case round =>
      obtain ⟨k, rfl, hk, hr, hb⟩ := hrel
      by_cases hlt : k < n
      · obtain ⟨x, s, rfl, hsk, hc⟩ := (H0.out.up (by rw [← HG.out]; exact hb)).get hlt
        have hck := hr.some (i := k) (by simp; omega)
        have hfk := Row.frozen hr k
        have hxk : xs[k]? = some s.data.toList := by rw [HL.out.2, List.getElem?_map, hsk]; rfl
        have hnx := copy_next hxl hxk
        have hr2 := hr.set k s.data.toList
        rw [hnx, S_L] at hr2
        have HR := Lib.hid (And.intro hr2 (hb.setCell (p := ⟨ga, k, none⟩) (Nat.le_refl _) (.string s)))
        clear hr hb hr2 hnx hxk hsk
        go_wp2_with fail
        exact ⟨⟨k + 1, by go_num, by omega, HR.out⟩, by simp [intOf]; omega⟩
      · obtain rfl : k = n := by omega
        have e : xs.take k ++ List.replicate (k - k) [] = xs := by rw [Nat.sub_self, List.replicate_zero, List.append_nil, List.take_of_length_le (by omega)]
        rw [e] at hr
        have HR := Lib.hid (And.intro hr hb)
        clear hr hb e
        go_wp2_with fail
        go_meet
        exact HR.out
  case rest =>
    have hbw : ga ≤ wc.heap.size := by have := hcut.2.size; have := HG.out; omega
    have R1 := Lib.hid hcut
    clear hcut R0
    go_upto_block 2 with (at_make; refine wpList_make_full _ rfl (.tmp 32) (.tmp 32) 22 rfl wc.heap.size 9 i0 (.string ⟨#[]⟩) 1 Tryf.underlying22 HI.out.1 HI.out.2.1 HI.out.2.2.1 _ _ _ _ n rfl rfl rfl rfl (by rw [HI.out.2.2.2]; omega) (by unfold maxLen; omega) (Nat.le_refl _) ?_; intro w3 hown hgrow)
    obtain ⟨gb, hgb⟩ : ∃ g, g = wc.heap.size := ⟨_, rfl⟩
    have hgl := Row.lt R1.out.1
    have R2 := Lib.hid (And.intro (Row.grown R1.out.1 hgrow (by simp)) (And.intro (lrow_made hown) (R1.out.2.grown hgrow hbw (fun k hk => by cases hk))))
    rw [← hgb] at R2 ⊢
    have hne : ga ≠ gb := by omega
    have hba : ga ≤ gb := by omega
    clear hown hgrow R1 hgl hgb hbw
    go_cut [4, 6, 7] from 34 (fun s4 _ _ wx => ∃ g, s4 = .slice (some ⟨g, 0, none⟩) n n ∧ LRow wx g (xs.mergeSort leB) ∧ Below ga w wx)
    case first =>
      go_wp2_with fail
      go_loopw [4, 6, 7] (fun s4 s6 s7 wr => ∃ (g h wd : Nat) (A B : LB), s4 = .slice (some ⟨g, 0, none⟩) n n ∧ s6 = .slice (some ⟨h, 0, none⟩) n n ∧ s7 = .int .i64 wd ∧ g ≠ h ∧ ga ≤ g ∧ ga ≤ h ∧ 1 ≤ wd ∧ wd ≤ 8192 ∧ LRow wr g A ∧ LRow wr h B ∧ B.length = n ∧ A.Perm xs ∧ CS wd A ∧ Below ga w wr) (fun _ _ s7 _ => n - (intOf s7).toNat)
      case atStart => exact ⟨ga, gb, 1, xs, List.replicate n [], rfl, rfl, rfl, hne, Nat.le_refl _, hba, Nat.le_refl _, by decide, R2.out.1, R2.out.2.1, by simp, List.Perm.refl _, CS_one _, R2.out.2.2⟩
      case round =>
        obtain ⟨g, h, wd, A, B, rfl, rfl, rfl, hgh, hg1, hh1, hw1, hw2, hrA, hrB, hBl, hAp, hAc, hbw⟩ := hrel
        have hAl : A.length = n := by rw [hAp.length_eq, hxl]
        have R3 := Lib.hid (And.intro hrA (And.intro hrB hbw))
        have HA := Lib.hid (And.intro hAp hAc)
        clear hrA hrB hbw hAp hAc R2
        obtain ⟨w0, rfl⟩ : ∃ w0 : World, w0 = wr := ⟨_, rfl⟩
        by_cases hlt : wd < n
        · go_upto_block 4 with fail
          go_cut [] from 39 to 105 (fun wx => LRow wx g A ∧ LRow wx h (pass n wd A) ∧ Below ga w wx)
          case first =>
            go_wp2_with fail
            go_loopw [8] (fun s8 wr => ∃ (lo f : Nat) (B : LB), s8 = .int .i64 lo ∧ lo ≤ 65536 ∧ n ≤ f + lo ∧ LRow wr g A ∧ LRow wr h B ∧ B.length = n ∧ B.take lo ++ pass f wd (A.drop lo) = pass n wd A ∧ Below ga w wr) (fun s8 _ => n - (intOf s8).toNat)
            case atStart => exact ⟨0, n, B, rfl, by decide, by omega, R3.out.1, R3.out.2.1, hBl, by simp, R3.out.2.2⟩
            case round =>
              obtain ⟨lo, f, B, rfl, hlo, hf, hrA, hrB, hBl, hps, hbw⟩ := hrel
              have R4 := Lib.hid (And.intro hrA (And.intro hrB (And.intro hbw hps)))
              clear hrA hrB hbw hps R3
              obtain ⟨w1, rfl⟩ : ∃ w1 : World, w1 = wr := ⟨_, rfl⟩
              by_cases hl2 : lo < n
              · obtain ⟨mid, hmid⟩ : ∃ m, m = min (lo + wd) n := ⟨_, rfl⟩
                obtain ⟨hi, hhi⟩ : ∃ m, m = min (lo + 2 * wd) n := ⟨_, rfl⟩
                have hm1 : mid ≤ n := by omega
                have hm2 : hi ≤ n := by omega
                have hm3 : lo ≤ mid := by omega
                have hm4 : mid ≤ hi := by omega
                have HM := Lib.hid (And.intro hmid hhi)
                go_upto_if 51 with fail
                go_cut [9] from 46 to 105 (fun s9 wx => s9 = .int .i64 mid ∧ w1 = wx)
                case first =>
                  by_cases hc : n < lo + wd
                  · have e : mid = n := by omega
                    clear hmid hhi
                    go_wp2_with fail
                    go_meet
                    exact ⟨by rw [e], rfl⟩
                  · have e : mid = lo + wd := by omega
                    clear hmid hhi
                    go_wp2_with fail
                    go_meet
                    exact ⟨by rw [e]; go_num, rfl⟩
                case rest =>
                  obtain ⟨rfl, rfl⟩ := hcut
                  go_upto_if 59 with fail
                  go_cut [10] from 46 to 105 (fun s10 wx => s10 = .int .i64 hi ∧ w1 = wx)
                  case first =>
                    by_cases hc : n < lo + 2 * wd
                    · have e : hi = n := by omega
                      clear hmid hhi
                      go_wp2_with fail
                      go_meet
                      exact ⟨by rw [e], rfl⟩
                    · have e : hi = lo + 2 * wd := by omega
                      clear hmid hhi
                      go_wp2_with fail
                      go_meet
                      exact ⟨by rw [e]; go_num, rfl⟩
                  case rest =>
                    obtain ⟨rfl, rfl⟩ := hcut
                    clear hmid hhi
                    have hst := rest_start (A := A) (w := wd) (lo := lo) (by omega)
                    rw [hAl, ← HM.out.1, ← HM.out.2] at hst
                    have HST := Lib.hid hst
                    clear hst
                    go_wp2_with fail
                    go_loopw [11, 12, 13] (fun s11 s12 s13 wr => ∃ (i j k : Nat) (B2 : LB), s11 = .int .i64 i ∧ s12 = .int .i64 j ∧ s13 = .int .i64 k ∧ lo ≤ i ∧ i ≤ mid ∧ mid ≤ j ∧ j ≤ hi ∧ i + j = k + mid ∧ LRow wr g A ∧ LRow wr h B2 ∧ B2.length = n ∧ B2.take k ++ rest A i mid j hi = B.take lo ++ mg (A.drop lo) wd ∧ Below ga w wr) (fun _ _ s13 _ => hi - (intOf s13).toNat)
                    case atStart => exact ⟨lo, mid, lo, B, rfl, rfl, rfl, Nat.le_refl _, hm3, Nat.le_refl _, hm4, by omega, R4.out.1, R4.out.2.1, hBl, by rw [HST.out], R4.out.2.2.1⟩
                    case round =>
                      obtain ⟨i, j, k, B2, rfl, rfl, rfl, hi1, hi2, hj1, hj2, hij, hrA, hrB, hB2, hmr, hbw⟩ := hrel
                      by_cases hk : k < hi
                      · have R5 := Lib.hid (And.intro hrA (And.intro hrB (And.intro hmr hbw)))
                        have cb := hrB.some (i := k) (by omega)
                        have fb := Row.frozen hrB k
                        clear hmr hbw
                        by_cases hc1 : i < mid
                        · have hxi := getD_get (A := A) (i := i) (by omega)
                          have ci := hrA.some (i := i) (by omega)
                          obtain ⟨x, hx⟩ : ∃ x, x = A.getD i [] := ⟨_, rfl⟩
                          rw [← hx] at hxi ci
                          by_cases hc2 : hi ≤ j
                          · have HN := Lib.hid (rest_left (A := A) (mid := mid) (hi := hi) (j := j) hxi hc1 (.inl hc2))
                            clear hrA hrB hx hxi
                            go_wp2_with fail
                            go_quiet (fail)
                            go_wp2_with fail
                            exact ⟨⟨i + 1, j, k + 1, B2.set k x, by go_num, by go_num, by go_num, by omega, by omega, by omega, by omega, by omega, Row.far (Row.drewN R5.out.1 nq) hgh _, LRow.set (Row.drewN R5.out.2.1 nq) k x, by rw [List.length_set]; exact hB2, by rw [take_set (by omega), List.append_assoc, ← R5.out.2.2.1, HN.out]; rfl, (below_drawn R5.out.2.2.2 nq).setCell (p := ⟨h, k, none⟩) hh1 _⟩, by simp [intOf]; omega⟩
                          · have hyj := getD_get (A := A) (i := j) (by omega)
                            have cj := hrA.some (i := j) (by omega)
                            obtain ⟨y, hy⟩ : ∃ y, y = A.getD j [] := ⟨_, rfl⟩
                            rw [← hy] at hyj cj
                            clear hrA hrB hx hy
                            cases hb1 : Op.bytesLess (S x).toList (S y).toList
                            · cases hb2 : ((S x).toList == (S y).toList)
                              · have HN := Lib.hid (rest_right (A := A) (i := i) (mid := mid) (hi := hi) hyj (by omega) (.inr ⟨x, hxi, hc1, leB_no hb1 hb2⟩))
                                clear hxi hyj
                                go_wp2_with fail
                                go_quiet (fail)
                                go_wp2_with fail
                                exact ⟨⟨i, j + 1, k + 1, B2.set k y, by go_num, by go_num, by go_num, by omega, by omega, by omega, by omega, by omega, Row.far (Row.drewN R5.out.1 nq) hgh _, LRow.set (Row.drewN R5.out.2.1 nq) k y, by rw [List.length_set]; exact hB2, by rw [take_set (by omega), List.append_assoc, ← R5.out.2.2.1, HN.out]; rfl, (below_drawn R5.out.2.2.2 nq).setCell (p := ⟨h, k, none⟩) hh1 _⟩, by simp [intOf]; omega⟩
                              · have HN := Lib.hid (rest_left (A := A) (mid := mid) (hi := hi) (j := j) hxi hc1 (.inr ⟨y, hyj, by omega, leB_eq hb2⟩))
                                clear hxi hyj
                                go_wp2_with fail
                                go_quiet (fail)
                                go_wp2_with fail
                                exact ⟨⟨i + 1, j, k + 1, B2.set k x, by go_num, by go_num, by go_num, by omega, by omega, by omega, by omega, by omega, Row.far (Row.drewN R5.out.1 nq) hgh _, LRow.set (Row.drewN R5.out.2.1 nq) k x, by rw [List.length_set]; exact hB2, by rw [take_set (by omega), List.append_assoc, ← R5.out.2.2.1, HN.out]; rfl, (below_drawn R5.out.2.2.2 nq).setCell (p := ⟨h, k, none⟩) hh1 _⟩, by simp [intOf]; omega⟩
                            · have HN := Lib.hid (rest_left (A := A) (mid := mid) (hi := hi) (j := j) hxi hc1 (.inr ⟨y, hyj, by omega, leB_lt hb1⟩))
                              clear hxi hyj
                              go_wp2_with fail
                              go_quiet (fail)
                              go_wp2_with fail
                              exact ⟨⟨i + 1, j, k + 1, B2.set k x, by go_num, by go_num, by go_num, by omega, by omega, by omega, by omega, by omega, Row.far (Row.drewN R5.out.1 nq) hgh _, LRow.set (Row.drewN R5.out.2.1 nq) k x, by rw [List.length_set]; exact hB2, by rw [take_set (by omega), List.append_assoc, ← R5.out.2.2.1, HN.out]; rfl, (below_drawn R5.out.2.2.2 nq).setCell (p := ⟨h, k, none⟩) hh1 _⟩, by simp [intOf]; omega⟩
                        · have hc3 : j < hi := by omega
                          have hyj := getD_get (A := A) (i := j) (by omega)
                          have cj := hrA.some (i := j) (by omega)
                          obtain ⟨y, hy⟩ : ∃ y, y = A.getD j [] := ⟨_, rfl⟩
                          rw [← hy] at hyj cj
                          have HN := Lib.hid (rest_right (A := A) (i := i) (mid := mid) (hi := hi) hyj hc3 (.inl (by omega)))
                          clear hrA hrB hy hyj
                          go_wp2_with fail
                          go_quiet (fail)
                          go_wp2_with fail
                          exact ⟨⟨i, j + 1, k + 1, B2.set k y, by go_num, by go_num, by go_num, by omega, by omega, by omega, by omega, by omega, Row.far (Row.drewN R5.out.1 nq) hgh _, LRow.set (Row.drewN R5.out.2.1 nq) k y, by rw [List.length_set]; exact hB2, by rw [take_set (by omega), List.append_assoc, ← R5.out.2.2.1, HN.out]; rfl, (below_drawn R5.out.2.2.2 nq).setCell (p := ⟨h, k, none⟩) hh1 _⟩, by simp [intOf]; omega⟩
                      · have e1 : i = mid := by omega
                        have e2 : j = hi := by omega
                        have e3 : k = hi := by omega
                        subst e1 e2 e3
                        rw [rest_end (Nat.le_refl _) (Nat.le_refl _), List.append_nil] at hmr
                        have R5 := Lib.hid (And.intro hrA (And.intro hrB (And.intro hmr hbw)))
                        clear hrA hrB hmr hbw
                        obtain ⟨f', rfl⟩ : ∃ f', f = f' + 1 := ⟨f - 1, by omega⟩
                        have hfin : B2.take (lo + 2 * wd) ++ pass f' wd (A.drop (lo + 2 * wd)) = pass n wd A := by
                          have h1 := R4.out.2.2.2
                          rw [pass_step (by intro e; have := congrArg List.length e; rw [List.length_drop] at this; simp at this; omega), ← List.append_assoc, ← R5.out.2.2.1, List.drop_drop] at h1
                          rw [← h1]
                          congr 1
                          by_cases hh : lo + 2 * wd ≤ n
                          · rw [HM.out.2, Nat.min_eq_left hh]
                          · rw [HM.out.2, Nat.min_eq_right (by omega), List.take_of_length_le (by omega), List.take_of_length_le (by omega)]
                        have R6 := Lib.hid (And.intro R5.out.1 (And.intro R5.out.2.1 (And.intro hB2 (And.intro hfin R5.out.2.2.2))))
                        clear hfin
                        go_wp2_with fail
                        exact ⟨⟨lo + 2 * wd, f', B2, by go_num, by omega, by omega, R6.out⟩, by simp [intOf]; omega⟩
              · have e : A.drop lo = [] := List.drop_eq_nil_of_le (by omega)
                have h1 := R4.out.2.2.2
                rw [e, pass_nil, List.append_nil, List.take_of_length_le (by omega)] at h1
                have R5 := Lib.hid (And.intro R4.out.1 (And.intro R4.out.2.1 R4.out.2.2.1))
                rw [h1] at R5
                clear e h1
                go_wp2_with fail
                go_meet
                exact R5.out
          case rest =>
            have R4 := Lib.hid hcut
            clear hcut R3
            go_wp2_with fail
            exact ⟨⟨h, g, 2 * wd, pass n wd A, A, rfl, rfl, by go_num, hgh.symm, hh1, hg1, by omega, by omega, R4.out.2.1, R4.out.1, hAl, (pass_perm _ _ _).trans HA.out.1, pass_CS _ _ _ (by omega) hw1 HA.out.2, R4.out.2.2⟩, by simp [intOf]; omega⟩
        · have hso := sorted_eq HA.out.1 HA.out.2 (by omega)
          have HS := Lib.hid hso
          clear hso
          go_wp2_with fail
          go_meet
          exact ⟨g, rfl, by rw [← HS.out]; exact R3.out.1, R3.out.2.2⟩
    case rest =>
      obtain ⟨g, rfl, hr, hb⟩ := hcut
      obtain ⟨M, hM⟩ : ∃ M, M = xs.mergeSort leB := ⟨_, rfl⟩
      rw [← hM] at hr
      have hMl : M.length = n := by rw [hM, List.length_mergeSort, hxl]
      have hsz : ga ≤ wc.heap.size := by have := hb.size; have := HG.out; omega
      have R3 := Lib.hid (And.intro hr (And.intro hb hM))
      clear hr hb hM R2
      obtain ⟨W, rfl⟩ : ∃ W : World, W = wc := ⟨_, rfl⟩
      go_upto_block 8 with (at_make; refine wpList_make_own _ rfl _ _ 22 rfl W.heap.size 9 i0 (.string ⟨#[]⟩) 1 Tryf.underlying22 HI.out.1 HI.out.2.1 HI.out.2.2.1 _ _ _ n rfl rfl rfl (by rw [HI.out.2.2.2]; omega) (by unfold maxLen; omega) (Nat.le_refl _) ?_; intro w4 hown hgrow)
      have R4 := Lib.hid (And.intro hown (And.intro (Row.grown R3.out.1 hgrow (by simp)) ((Below.refl W.heap.size W).grown hgrow (Nat.le_refl _) (fun k hk => by cases hk))))
      clear hown hgrow
      go_wp2_with fail
      go_loopw [14, 15] (fun s14 s15 wr => ∃ k : Nat, s15 = .int .i64 k ∧ k ≤ n ∧ wr.ownsRow W.heap.size 9 1 s14 (ddup (M.take k)).length ((ddup (M.take k)).map encStr) ∧ s14 ≠ .slice none 0 0 ∧ LRow wr g M ∧ Below W.heap.size W wr) (fun _ s15 _ => n - (intOf s15).toNat)
      case atStart => exact ⟨0, rfl, Nat.zero_le _, by simpa [ddup] using R4.out.1, by simp, R4.out.2.1, R4.out.2.2⟩
      case round =>
        obtain ⟨k, rfl, hk, hrow, hnn, hr, hbw⟩ := hrel
        have hszw := hbw.size
        by_cases hlt : k < n
        · have ck := hr.some (i := k) (by omega)
          have hxk := getD_get (A := M) (i := k) (by omega)
          obtain ⟨x, hx⟩ : ∃ x, x = M.getD k [] := ⟨_, rfl⟩
          rw [← hx] at ck hxk
          have hnx := ddup_next hxk
          have hdl := ddup_len _ (M.take k) rfl
          have hdl : (ddup (M.take k)).length ≤ 4096 := by rw [List.length_take] at hdl; omega
          cases k with
          | zero =>
            rw [if_neg (by simp)] at hnx
            have RS := Lib.hid (And.intro hrow (And.intro hr (And.intro hbw hnx)))
            clear hrow hr hbw hnx hxk hx
            go_wp2_with fail
            go_quiet (fail)
            go_wp2_with (at_builtin; refine wpList_append_own _ rfl _ _ 22 rfl W.heap.size 9 i0 (.string ⟨#[]⟩) 1 16 Tryf.underlying22 HI.out.1 HI.out.2.1 HI.out.2.2.1 HI.out.2.2.2 rfl (by decide) _ _ _ rfl (World.ownsRow.alloc (w := wr.drewN nq) RS.out.1 _) ⟨wr.heap.size, 0, none⟩ 1 1 [encStr x] rfl rfl (cell_one_new _ _ _) (by simp [Value.oneCell', encStr]) (by unfold maxLen; omega) (by omega) (by simp; omega) ?_; intro v' w5 hown' hg5 hnil5; go_frame)
            exact ⟨⟨0 + 1, by go_num, by omega, by rw [RS.out.2.2.2, List.length_append, List.map_append]; exact hown', fun hv' => by have := (hnil5.1 hv').2; omega, Row.grown (Row.alloc (Row.drewN RS.out.2.1 nq) (.cells #[.string (S x)] 9)) hg5 (own_far (World.ownsRow.alloc (w := wr.drewN nq) RS.out.1 (.cells #[.string (S x)] 9)) R3.out.1), ((below_drawn RS.out.2.2.1 nq).alloc (by simp; omega) (.cells #[.string (S x)] 9)).grown hg5 (by simp; omega) (fun j hj => (RS.out.1.lt j hj).1)⟩, by simp [intOf]; omega⟩
          | succ k =>
            have ck2 := hr.some (i := k) (by omega)
            have t1 : (0 : Int) ≤ (k : Int) + 1 := by omega
            have t2 : (k : Int) + 1 < (n : Int) := by omega
            have t3 : (k : Int) < (n : Int) := by omega
            have t4 : ((k : Int) + 1 == 0) = false := by simp; omega
            have hzk := getD_get (A := M) (i := k) (by omega)
            obtain ⟨z, hz⟩ : ∃ z, z = M.getD k [] := ⟨_, rfl⟩
            rw [← hz] at ck2 hzk
            rw [Nat.add_sub_cancel, hzk] at hnx
            cases hb2 : ((S x).toList == (S z).toList)
            · have hne2 : ¬ (0 < k + 1 ∧ some z = some x) := by
                rintro ⟨_, h2⟩
                rw [Option.some.inj h2] at hb2
                simp at hb2
              rw [if_neg hne2] at hnx
              have RS := Lib.hid (And.intro hrow (And.intro hr (And.intro hbw hnx)))
              clear hrow hr hbw hnx hxk hzk hx hz hne2
              go_wp2_with fail
              go_quiet (fail)
              go_wp2_with (at_builtin; refine wpList_append_own _ rfl _ _ 22 rfl W.heap.size 9 i0 (.string ⟨#[]⟩) 1 16 Tryf.underlying22 HI.out.1 HI.out.2.1 HI.out.2.2.1 HI.out.2.2.2 rfl (by decide) _ _ _ rfl (World.ownsRow.alloc (w := wr.drewN nq) RS.out.1 _) ⟨wr.heap.size, 0, none⟩ 1 1 [encStr x] rfl rfl (cell_one_new _ _ _) (by simp [Value.oneCell', encStr]) (by unfold maxLen; omega) (by omega) (by simp; omega) ?_; intro v' w5 hown' hg5 hnil5; go_frame)
              exact ⟨⟨k + 1 + 1, by go_num, by omega, by rw [RS.out.2.2.2, List.length_append, List.map_append]; exact hown', fun hv' => by have := (hnil5.1 hv').2; omega, Row.grown (Row.alloc (Row.drewN RS.out.2.1 nq) (.cells #[.string (S x)] 9)) hg5 (own_far (World.ownsRow.alloc (w := wr.drewN nq) RS.out.1 (.cells #[.string (S x)] 9)) R3.out.1), ((below_drawn RS.out.2.2.1 nq).alloc (by simp; omega) (.cells #[.string (S x)] 9)).grown hg5 (by simp; omega) (fun j hj => (RS.out.1.lt j hj).1)⟩, by simp [intOf]; omega⟩
            · have hxz : z = x := by
                rw [S_toList, S_toList] at hb2
                exact (beq_iff_eq.1 hb2).symm
              rw [if_pos ⟨by omega, by rw [hxz]⟩] at hnx
              rw [← hnx] at hrow
              have RS := Lib.hid (And.intro hrow (And.intro hr hbw))
              clear hrow hr hbw hnx hxk hzk hx hz hdl hxz
              go_wp2_with fail
              go_quiet (fail)
              go_wp2_with fail
              exact ⟨⟨k + 1 + 1, by go_num, by omega, RS.out.1, hnn, RS.out.2.1, below_drawn RS.out.2.2 nq⟩, by simp [intOf]; omega⟩
        · obtain rfl : k = n := by omega
          rw [List.take_of_length_le (by omega)] at hrow
          have hsd : ddup M = sd xs := by rw [R3.out.2.2]; rfl
          rw [hsd] at hrow
          rcases hrow.2 with ⟨hnil, _⟩ | ⟨g2, cap2, cur, rfl, _, hcur, hcl, _, _, htk⟩
          · exact absurd hnil hnn
          have hS : SRow wr g2 (sd xs) := by
            refine ⟨cur, hcur, fun i x hx => ?_⟩
            have hi := (List.getElem?_eq_some_iff.1 hx).1
            have e : (cur.toList.take ((sd xs).length * 1))[i]? = ((sd xs).map encStr)[i]? := by rw [htk]
            rw [List.getElem?_take_of_lt (by omega), Array.getElem?_toList] at e
            rw [e, List.getElem?_map, hx]
            rfl
          have RS := Lib.hid (And.intro hS (R3.out.2.1.trans (hbw.mono hsz)))
          clear hrow hr hbw hsd hcur htk hS
          go_wp2_with fail
          go_ret
          exact ⟨_, _, rfl, RS.out.1, by rw [← HG.out]; exact RS.out.2⟩

end Go.Proofs.YtpjpdeecpobmlaaFmt
