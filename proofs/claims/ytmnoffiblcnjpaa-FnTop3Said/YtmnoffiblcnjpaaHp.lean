/-
  sort.siftDown, sort.heapSort, sort.reverseRange over the elements: the row holds what the plain functions say; conditions: those that each lemma names.
-/
import Derived.Test.YtmnoffiblcnjpaaIns
import Derived.Sort.WalkB2
namespace Go.Proofs.Ytmnoffiblcnjpaa
open Go.RowKit Go.Sort

theorem less_at {w0 w : World} {g N : Nat} {d : Array El} (h : R w0 g N d w) {x y : Int} (i j : Nat) {b : Bool} (hb : ltE d[i]! d[j]! = b) (hi : i < N) (hj : j < N) (hx : x = (i : Int)) (hy : y = (j : Int)) :
    Calls Try.prog 57 #[.slice (some ⟨g, 0, none⟩) N N, .int .i64 x, .int .i64 y] w (Post w0 g N (.bool b) d w) := by
  subst hx hy hb
  exact less_any h i j hi hj
theorem swap_at {w0 w : World} {g N : Nat} {d : Array El} (h : R w0 g N d w) {x y : Int} (i j : Nat) (hi : i < N) (hj : j < N) (hx : x = (i : Int)) (hy : y = (j : Int)) :
    Calls Try.prog 58 #[.slice (some ⟨g, 0, none⟩) N N, .int .i64 x, .int .i64 y] w (Post w0 g N (.tuple #[]) (swp d i j) w) := by
  subst hx hy
  exact swap_any h i j hi hj

set_option maxHeartbeats 4000000 in
set_option maxRecDepth 100000 in
theorem sift_any {w0 w : World} {g N : Nat} {d : Array El} (h : R w0 g N d w) (hN : N ≤ 65536) (lo hi first : Nat) (hlo : lo ≤ hi) (hb : first + hi ≤ N) :
    Calls Try.prog 34 #[dv g N, .int .i64 lo, .int .i64 hi, .int .i64 first] w (Post w0 g N (.tuple #[]) (siftDown ltE hi first lo d) w) := by
  have H := Lib.hid h
  have mL := meth_less g N
  have mS := meth_swap g N
  clear h
  go_enter Try.func34, Try.ntmps34
  go_wp2_with fail
  go_loopg [8] (hi - lo) (fun kx s8 wr => ∃ (root : Nat) (dk : Array El), s8 = .int .i64 root ∧ root ≤ hi ∧ hi - root ≤ kx ∧ R w0 g N dk wr ∧ Up w0 w wr ∧ siftDown ltE hi first root dk = siftDown ltE hi first lo d)
  case atStart => exact ⟨lo, d, rfl, hlo, Nat.le_refl _, H.out, Up.refl _ _, rfl⟩
  case round =>
    obtain ⟨root, dk, rfl, hr, hkx, hR, hU, hE⟩ := hrel
    have HK := Lib.hid (And.intro hR (And.intro hU hE))
    clear hR hU hE
    by_cases h0 : hi ≤ 2 * root + 1
    · go_wp2_with fail
      go_end0
      exact ⟨rfl, by rw [← HK.out.2.2, sd_end ltE dk h0]; exact HK.out.1, HK.out.2.1⟩
    by_cases h1 : 2 * root + 2 < hi
    · cases hL : ltE dk[first + (2 * root + 1)]! dk[first + (2 * root + 2)]! with
      | true =>
        cases hG : ltE dk[first + root]! dk[first + (2 * root + 2)]! with
        | true =>
          have HE := Lib.hid (And.intro hL hG)
          clear hL hG
          go_wp2_with fail
          refine (less_at HK.out.1 (first + (2 * root + 1)) (first + (2 * root + 2)) HE.out.1 (by omega) (by omega) (by omega) (by omega)).mono ?_
          rintro e w1 ⟨rfl, hR1, hU1⟩
          have H1 := Lib.hid (And.intro hR1 hU1)
          clear hR1 hU1
          go_wp2_with fail
          refine (less_at H1.out.1 (first + root) (first + (2 * root + 2)) HE.out.2 (by omega) (by omega) (by omega) (by omega)).mono ?_
          rintro e w2 ⟨rfl, hR2, hU2⟩
          have H2 := Lib.hid (And.intro hR2 hU2)
          clear hR2 hU2
          go_wp2_with fail
          refine (swap_at H2.out.1 (first + root) (first + (2 * root + 2)) (by omega) (by omega) (by omega) (by omega)).mono ?_
          rintro e w3 ⟨rfl, hR3, hU3⟩
          have H3 := Lib.hid (And.intro hR3 hU3)
          clear hR3 hU3
          go_wp2_with fail
          go_roundg (hi - (2 * root + 2))
          case measure => omega
          case rel => exact ⟨2 * root + 2, _, by go_num, by omega, Nat.le_refl _, H3.out.1, ((HK.out.2.1.trans H1.out.2).trans H2.out.2).trans H3.out.2, by rw [← HK.out.2.2, sd_right_go ltE dk h1 HE.out.1 HE.out.2]⟩
        | false =>
          have HE := Lib.hid (And.intro hL hG)
          clear hL hG
          go_wp2_with fail
          refine (less_at HK.out.1 (first + (2 * root + 1)) (first + (2 * root + 2)) HE.out.1 (by omega) (by omega) (by omega) (by omega)).mono ?_
          rintro e w1 ⟨rfl, hR1, hU1⟩
          have H1 := Lib.hid (And.intro hR1 hU1)
          clear hR1 hU1
          go_wp2_with fail
          refine (less_at H1.out.1 (first + root) (first + (2 * root + 2)) HE.out.2 (by omega) (by omega) (by omega) (by omega)).mono ?_
          rintro e w2 ⟨rfl, hR2, hU2⟩
          have H2 := Lib.hid (And.intro hR2 hU2)
          clear hR2 hU2
          go_wp2_with fail
          (try simp only [Exit.inBlock, Exit.then]); refine bodyPost_ret (results_none rfl _ _ _) rfl ?_
          exact ⟨rfl, by rw [← HK.out.2.2, sd_right_stop ltE dk h1 HE.out.1 HE.out.2]; exact H2.out.1, (HK.out.2.1.trans H1.out.2).trans H2.out.2⟩
      | false =>
        cases hG : ltE dk[first + root]! dk[first + (2 * root + 1)]! with
        | true =>
          have HE := Lib.hid (And.intro hL hG)
          clear hL hG
          go_wp2_with fail
          refine (less_at HK.out.1 (first + (2 * root + 1)) (first + (2 * root + 2)) HE.out.1 (by omega) (by omega) (by omega) (by omega)).mono ?_
          rintro e w1 ⟨rfl, hR1, hU1⟩
          have H1 := Lib.hid (And.intro hR1 hU1)
          clear hR1 hU1
          go_wp2_with fail
          refine (less_at H1.out.1 (first + root) (first + (2 * root + 1)) HE.out.2 (by omega) (by omega) (by omega) (by omega)).mono ?_
          rintro e w2 ⟨rfl, hR2, hU2⟩
          have H2 := Lib.hid (And.intro hR2 hU2)
          clear hR2 hU2
          go_wp2_with fail
          refine (swap_at H2.out.1 (first + root) (first + (2 * root + 1)) (by omega) (by omega) (by omega) (by omega)).mono ?_
          rintro e w3 ⟨rfl, hR3, hU3⟩
          have H3 := Lib.hid (And.intro hR3 hU3)
          clear hR3 hU3
          go_wp2_with fail
          go_roundg (hi - (2 * root + 1))
          case measure => omega
          case rel => exact ⟨2 * root + 1, _, by go_num, by omega, Nat.le_refl _, H3.out.1, ((HK.out.2.1.trans H1.out.2).trans H2.out.2).trans H3.out.2, by rw [← HK.out.2.2, sd_left_go ltE dk (by omega) (fun _ => HE.out.1) HE.out.2]⟩
        | false =>
          have HE := Lib.hid (And.intro hL hG)
          clear hL hG
          go_wp2_with fail
          refine (less_at HK.out.1 (first + (2 * root + 1)) (first + (2 * root + 2)) HE.out.1 (by omega) (by omega) (by omega) (by omega)).mono ?_
          rintro e w1 ⟨rfl, hR1, hU1⟩
          have H1 := Lib.hid (And.intro hR1 hU1)
          clear hR1 hU1
          go_wp2_with fail
          refine (less_at H1.out.1 (first + root) (first + (2 * root + 1)) HE.out.2 (by omega) (by omega) (by omega) (by omega)).mono ?_
          rintro e w2 ⟨rfl, hR2, hU2⟩
          have H2 := Lib.hid (And.intro hR2 hU2)
          clear hR2 hU2
          go_wp2_with fail
          (try simp only [Exit.inBlock, Exit.then]); refine bodyPost_ret (results_none rfl _ _ _) rfl ?_
          exact ⟨rfl, by rw [← HK.out.2.2, sd_left_stop ltE dk (by omega) (fun _ => HE.out.1) HE.out.2]; exact H2.out.1, (HK.out.2.1.trans H1.out.2).trans H2.out.2⟩
    · cases hG : ltE dk[first + root]! dk[first + (2 * root + 1)]! with
      | true =>
        have HE := Lib.hid hG
        clear hG
        go_wp2_with fail
        refine (less_at HK.out.1 (first + root) (first + (2 * root + 1)) HE.out (by omega) (by omega) (by omega) (by omega)).mono ?_
        rintro e w2 ⟨rfl, hR2, hU2⟩
        have H2 := Lib.hid (And.intro hR2 hU2)
        clear hR2 hU2
        go_wp2_with fail
        refine (swap_at H2.out.1 (first + root) (first + (2 * root + 1)) (by omega) (by omega) (by omega) (by omega)).mono ?_
        rintro e w3 ⟨rfl, hR3, hU3⟩
        have H3 := Lib.hid (And.intro hR3 hU3)
        clear hR3 hU3
        go_wp2_with fail
        go_roundg (hi - (2 * root + 1))
        case measure => omega
        case rel => exact ⟨2 * root + 1, _, by go_num, by omega, Nat.le_refl _, H3.out.1, (HK.out.2.1.trans H2.out.2).trans H3.out.2, by rw [← HK.out.2.2, sd_left_go ltE dk (by omega) (fun hh => absurd hh (by omega)) HE.out]⟩
      | false =>
        have HE := Lib.hid hG
        clear hG
        go_wp2_with fail
        refine (less_at HK.out.1 (first + root) (first + (2 * root + 1)) HE.out (by omega) (by omega) (by omega) (by omega)).mono ?_
        rintro e w2 ⟨rfl, hR2, hU2⟩
        have H2 := Lib.hid (And.intro hR2 hU2)
        clear hR2 hU2
        go_wp2_with fail
        (try simp only [Exit.inBlock, Exit.then]); refine bodyPost_ret (results_none rfl _ _ _) rfl ?_
        exact ⟨rfl, by rw [← HK.out.2.2, sd_left_stop ltE dk (by omega) (fun hh => absurd hh (by omega)) HE.out]; exact H2.out.1, HK.out.2.1.trans H2.out.2⟩
end Go.Proofs.Ytmnoffiblcnjpaa
