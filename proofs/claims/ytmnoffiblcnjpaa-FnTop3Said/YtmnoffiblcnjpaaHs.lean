/-
  sort.heapSort, sort.reverseRange over the elements: the row holds what the plain functions say; conditions: those that each lemma names.
-/
import Derived.Test.YtmnoffiblcnjpaaHp
namespace Go.Proofs.Ytmnoffiblcnjpaa
open Go.RowKit Go.Sort

theorem sift_at {w0 w : World} {g N : Nat} {d : Array El} (h : R w0 g N d w) (hN : N ≤ 65536) {x y z : Int} (lo hi first : Nat) (hlo : lo ≤ hi) (hb : first + hi ≤ N) (hx : x = (lo : Int)) (hy : y = (hi : Int)) (hz : z = (first : Int)) :
    Calls Try.prog 34 #[.iface 36 (.slice (some ⟨g, 0, none⟩) N N), .int .i64 x, .int .i64 y, .int .i64 z] w (Post w0 g N (.tuple #[]) (siftDown ltE hi first lo d) w) := by
  subst hx hy hz
  exact sift_any h hN lo hi first hlo hb
set_option maxHeartbeats 2000000 in
set_option maxRecDepth 100000 in
theorem heap_any {w0 w : World} {g N : Nat} {d : Array El} (h : R w0 g N d w) (hN : N ≤ 65536) (a b : Nat) (hab : a ≤ b) (hb : b ≤ N) :
    Calls Try.prog 25 #[dv g N, .int .i64 a, .int .i64 b] w (Post w0 g N (.tuple #[]) (heapSort ltE d a b) w) := by
  have H := Lib.hid h
  have mS := meth_swap g N
  have ecast : ((b - a : Nat) : Int) = (b : Int) - (a : Int) := by omega
  have hstart : ((b : Int) - (a : Int) - 1).tdiv 2 = (((b - a - 1) / 2 + 1 : Nat) : Int) - 1 := half_start hab
  have HC := Lib.hid (And.intro ecast hstart)
  clear h ecast hstart
  go_enter Try.func25, Try.ntmps25
  go_upto_region 4 with fail
  rw [HC.out.2]
  obtain ⟨m, hm⟩ : ∃ m, (b - a - 1) / 2 + 1 = m := ⟨_, rfl⟩
  have hmb : m ≤ b - a + 1 := by omega
  rw [hm]
  have HM := Lib.hid hm
  clear hm
  go_wp2_with fail
  go_loopg [9] m (fun kx s9 wr => s9 = .int .i64 ((kx : Int) - 1) ∧ kx ≤ m ∧ ∃ dk : Array El, R w0 g N dk wr ∧ Up w0 w wr ∧ heapBuild ltE (b - a) a kx dk = heapBuild ltE (b - a) a m d)
  case atStart => exact ⟨rfl, Nat.le_refl _, d, H.out, Up.refl _ _, rfl⟩
  case round =>
    obtain ⟨rfl, hkk, dk, hR, hU, hE⟩ := hrel
    have HK := Lib.hid (And.intro hR (And.intro hU hE))
    clear hR hU hE
    cases gk with
    | zero =>
      go_wp2_with fail
      obtain ⟨wo, rfl⟩ : ∃ wo : World, wo = wr := ⟨_, rfl⟩
      go_loopg [10] (b - a) (fun kx s10 wr => s10 = .int .i64 ((kx : Int) - 1) ∧ kx ≤ b - a ∧ ∃ dj : Array El, R w0 g N dj wr ∧ Up w0 wo wr ∧ heapPop ltE a kx dj = heapPop ltE a (b - a) dk)
      case atStart => exact ⟨by rw [HC.out.1], Nat.le_refl _, dk, HK.out.1, Up.refl _ _, rfl⟩
      case round =>
        obtain ⟨rfl, hkk2, dj, hR, hU, hE⟩ := hrel
        have HJ := Lib.hid (And.intro hR (And.intro hU hE))
        clear hR hU hE
        cases gk with
        | zero =>
          go_wp2_with fail
          go_end0
          have e : heapSort ltE d a b = dj := by
            unfold heapSort
            rw [HM.out, ← HK.out.2.2]
            exact HJ.out.2.2.symm
          exact ⟨rfl, by rw [e]; exact HJ.out.1, HK.out.2.1.trans HJ.out.2.1⟩
        | succ kx =>
          go_wp2_with fail
          refine (swap_at HJ.out.1 a (a + kx) (by omega) (by omega) rfl (by omega)).mono ?_
          rintro e w3 ⟨rfl, hR3, hU3⟩
          have H3 := Lib.hid (And.intro hR3 hU3)
          clear hR3 hU3
          go_wp2_with fail
          refine (sift_at H3.out.1 hN 0 kx a (by omega) (by omega) rfl (by omega) rfl).mono ?_
          rintro e w4 ⟨rfl, hR4, hU4⟩
          have H4 := Lib.hid (And.intro hR4 hU4)
          clear hR4 hU4
          go_wp2_with fail
          go_roundg kx
          case measure => omega
          case rel => exact ⟨by first | rfl | (congr 1; omega) | simp, by omega, _, H4.out.1, (HJ.out.2.1.trans H3.out.2).trans H4.out.2, by rw [← HJ.out.2.2]; rfl⟩
    | succ kx =>
      have hk1 : (0 : Int) ≤ ((kx + 1 : Nat) : Int) - 1 := by omega
      go_wp2_with fail
      refine (sift_at HK.out.1 hN kx (b - a) a (by omega) (by omega) (by omega) (by omega) rfl).mono ?_
      rintro e w4 ⟨rfl, hR4, hU4⟩
      have H4 := Lib.hid (And.intro hR4 hU4)
      clear hR4 hU4
      go_wp2_with fail
      go_roundg kx
      case measure => omega
      case rel => exact ⟨by first | rfl | (congr 1; omega) | simp, by omega, _, H4.out.1, HK.out.2.1.trans H4.out.2, by rw [← HK.out.2.2]; rfl⟩
set_option maxHeartbeats 2000000 in
set_option maxRecDepth 100000 in
theorem rev_any {w0 w : World} {g N : Nat} {d : Array El} (h : R w0 g N d w) (hN : N ≤ 65536) (a b : Nat) (hab : a ≤ b) (hb : b ≤ N) :
    Calls Try.prog 28 #[dv g N, .int .i64 a, .int .i64 b] w (Post w0 g N (.tuple #[]) (reverseRange d a b) w) := by
  have H := Lib.hid h
  have mS := meth_swap g N
  clear h
  go_enter Try.func28, Try.ntmps28
  go_wp2_with fail
  go_loopg [6, 7] (b - a) (fun k s6 s7 wr => ∃ (i jn : Nat) (jz : Int) (dk : Array El), s6 = .int .i64 i ∧ s7 = .int .i64 jz ∧ ((i : Int) < jz → jz = jn ∧ jn < N) ∧ (¬ (i : Int) < jz → ¬ i < jn) ∧ -1 ≤ jz ∧ jz ≤ 65536 ∧ i ≤ 65536 ∧ jn - i ≤ k ∧ R w0 g N dk wr ∧ Up w0 w wr ∧ reverseLoop i jn dk = reverseLoop a (b - 1) d)
  case atStart => exact ⟨a, b - 1, (b : Int) - 1, d, rfl, rfl, fun h => ⟨by omega, by omega⟩, fun h => by omega, by omega, by omega, by omega, by omega, H.out, Up.refl _ _, rfl⟩
  case round =>
    obtain ⟨i, jn, jz, dk, rfl, rfl, h1, h2, hz1, hz2, hi1, hk, hR, hU, hE⟩ := hrel
    have HK := Lib.hid (And.intro hR (And.intro hU hE))
    clear hR hU hE
    by_cases hlt : (i : Int) < jz
    · obtain ⟨rfl, hjn⟩ := h1 hlt
      have hij : i < jn := by omega
      clear h1 h2
      go_wp2_with fail
      refine (swap_at HK.out.1 i jn (by omega) hjn rfl rfl).mono ?_
      rintro e w2 ⟨rfl, hR2, hU2⟩
      have H2 := Lib.hid (And.intro hR2 hU2)
      clear hR2 hU2
      go_wp2_with fail
      go_roundg (jn - 1 - (i + 1))
      case measure => omega
      case rel =>
        have heq := HK.out.2.2
        rw [reverseLoop, if_pos hij] at heq
        exact ⟨i + 1, jn - 1, (jn : Int) - 1, _, by go_num, rfl, fun h => ⟨by omega, by omega⟩, fun h => by omega, by omega, by omega, by omega, Nat.le_refl _, H2.out.1, HK.out.2.1.trans H2.out.2, heq⟩
    · have hnot := h2 hlt
      clear h1 h2
      go_wp2_with fail
      go_end0
      have heq := HK.out.2.2
      rw [reverseLoop, if_neg hnot] at heq
      exact ⟨rfl, by rw [reverseRange, ← heq]; exact HK.out.1, HK.out.2.1⟩
end Go.Proofs.Ytmnoffiblcnjpaa
