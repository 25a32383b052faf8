/-
  sort.insertionSort, siftDown, heapSort, reverseRange over the elements: the row holds what the plain functions say; conditions: those that each lemma names.
-/
import Derived.Test.YtmnoffiblcnjpaaElm
import Derived.Deep.LoopGhost
import Derived.Deep.Cut
import Derived.Sort.WalkA
import Derived.Sort.WalkB3
namespace Go.Proofs.Ytmnoffiblcnjpaa
open Go.RowKit Go.Sort

theorem meth_less (g N : Nat) (w : World) : (method 198 36 (.slice (some ⟨g, 0, none⟩) N N) "Less").run Try.prog w = .ok (57, .slice (some ⟨g, 0, none⟩) N N) w := by kernel_rfl
theorem meth_swap (g N : Nat) (w : World) : (method 198 36 (.slice (some ⟨g, 0, none⟩) N N) "Swap").run Try.prog w = .ok (58, .slice (some ⟨g, 0, none⟩) N N) w := by kernel_rfl
theorem meth_len (g N : Nat) (w : World) : (method 198 36 (.slice (some ⟨g, 0, none⟩) N N) "Len").run Try.prog w = .ok (56, .slice (some ⟨g, 0, none⟩) N N) w := by kernel_rfl
abbrev dv (g N : Nat) : Value := .iface 36 (.slice (some ⟨g, 0, none⟩) N N)

set_option maxHeartbeats 2000000 in
set_option maxRecDepth 100000 in
theorem ins_any {w0 w : World} {g N : Nat} {d : Array El} (h : R w0 g N d w) (hN : N ≤ 65536) (a b : Nat) (hab : a ≤ b) (hb : b ≤ N) :
    Calls Try.prog 24 #[dv g N, .int .i64 a, .int .i64 b] w (Post w0 g N (.tuple #[]) (insertionSort ltE d a b) w) := by
  have H := Lib.hid h
  have mL := meth_less g N
  have mS := meth_swap g N
  clear h
  go_enter Try.func24, Try.ntmps24
  go_wp2_with fail
  go_loopw [6, 7] (fun s6 _ wr => ∃ (i : Nat) (dk : Array El), s6 = .int .i64 i ∧ a < i ∧ i ≤ b + 1 ∧ R w0 g N dk wr ∧ Up w0 w wr ∧ insOuter ltE a b i dk = insOuter ltE a b (a + 1) d) (fun s6 _ _ => b + 1 - (intOf s6).toNat)
  case atStart => exact ⟨a + 1, d, by go_num, by omega, by omega, H.out, Up.refl _ _, rfl⟩
  case round =>
    obtain ⟨i, dk, rfl, hai, hib, hR, hU, hE⟩ := hrel
    have HK := Lib.hid (And.intro hR (And.intro hU hE))
    clear hR hU hE
    by_cases hlt : i < b
    · go_wp2_with fail
      obtain ⟨wo, rfl⟩ : ∃ wo : World, wo = wr := ⟨_, rfl⟩
      go_loopw [7] (fun s7 wr => ∃ (j : Nat) (dj : Array El), s7 = .int .i64 j ∧ a ≤ j ∧ j ≤ i ∧ R w0 g N dj wr ∧ Up w0 wo wr ∧ insInner ltE a j dj = insInner ltE a i dk) (fun s7 _ => (intOf s7).toNat)
      case atStart => exact ⟨i, dk, rfl, by omega, Nat.le_refl _, HK.out.1, Up.refl _ _, rfl⟩
      case round =>
        obtain ⟨j, dj, rfl, haj, hji, hR, hU, hE⟩ := hrel
        have HJ := Lib.hid (And.intro hR (And.intro hU hE))
        clear hR hU hE
        have out : (j ≤ a ∨ ltE dj[j]! dj[j - 1]! = false) → ∀ w2, R w0 g N dj w2 → Up w0 wr w2 → ∃ (i' : Nat) (dk' : Array El), Value.int .i64 ((i : Int) + 1) = .int .i64 i' ∧ a < i' ∧ i' ≤ b + 1 ∧ R w0 g N dk' w2 ∧ Up w0 w w2 ∧ insOuter ltE a b i' dk' = insOuter ltE a b (a + 1) d := fun hs w2 hR2 hU2 =>
          ⟨i + 1, dj, by go_num, by omega, by omega, hR2, (HK.out.2.1.trans HJ.out.2.1).trans hU2, by rw [← HK.out.2.2, insOuter_go _ _ _ _ _ hlt, ← HJ.out.2.2, insInner_stop _ _ _ _ hs]⟩
        have OUT := Lib.hid out
        clear out
        by_cases hja : a < j
        · have hl := less_any HJ.out.1 j (j - 1) (by omega) (by omega)
          rw [show (((j - 1 : Nat) : Int)) = (j : Int) - 1 by omega] at hl
          cases hlv : ltE dj[j]! dj[j - 1]! with
          | true =>
            rw [hlv] at hl
            have HL := Lib.hid (And.intro hl hlv)
            clear hl hlv
            go_wp2_with (first
              | (go_at_call 57; refine HL.out.1.mono ?_; rintro e w2 ⟨rfl, hR2, hU2⟩; have hsw := swap_any hR2 j (j - 1) (by omega) (by omega); rw [show (((j - 1 : Nat) : Int)) = (j : Int) - 1 by omega] at hsw)
              | (go_at_call 58; refine hsw.mono ?_; rintro e w3 ⟨rfl, hR3, hU3⟩))
            go_roundw
            case rel => exact ⟨j - 1, swp dj j (j - 1), by congr 1 <;> omega, by omega, by omega, hR3, (HJ.out.2.1.trans hU2).trans hU3, by rw [← HJ.out.2.2, insInner_go ltE a j dj hja HL.out.2]⟩
            case measure => simp [intOf]; omega
          | false =>
            rw [hlv] at hl
            have HL := Lib.hid (And.intro hl hlv)
            clear hl hlv
            go_wp2_with (go_at_call 57; refine HL.out.1.mono ?_; rintro e w2 ⟨rfl, hR2, hU2⟩)
            go_roundw
            case rel => exact OUT.out (Or.inr HL.out.2) _ hR2 hU2
            case measure => simp [intOf]; omega
        · go_wp2_with fail
          go_roundw
          case rel => exact OUT.out (Or.inl (by omega)) _ HJ.out.1 (Up.refl _ _)
          case measure => simp [intOf]; omega
    · go_wp2_with fail
      go_end0
      exact ⟨rfl, by unfold insertionSort; rw [← HK.out.2.2, insOuter_stop _ _ _ _ _ hlt]; exact HK.out.1, HK.out.2.1⟩
end Go.Proofs.Ytmnoffiblcnjpaa
