/-
  sort.partitionEqual over the elements: what it leaves; conditions: those that each lemma names.
-/
import Derived.Test.YtmnoffiblcnjpaaPrt
namespace Go.Proofs.Ytmnoffiblcnjpaa
open Go.RowKit Go.Sort

/-- What partitionEqual leaves: none before m is greater than p. -/
structure Equalled (a b m : Nat) (p : El) (d d' : Array El) : Prop where
  perm : PermIn a b d d'
  am : a < m
  mb : m ≤ b
  lo : ∀ k, a ≤ k → k < m → ltE p d'[k]! = false
theorem ltE_irrefl (x : El) : ltE x x = false := by
  unfold ltE
  simp
theorem EInv.stop {a b i j N : Nat} {p : El} {d dk : Array El} (h : EInv a b i j N p d dk) : Equalled a b i p d dk :=
  ⟨h.perm, h.ai, by have := h.ij; have := h.jb; omega, fun k k1 k2 => by
    by_cases e : k = a
    · rw [e, h.pa]; exact ltE_irrefl p
    · exact h.lo k (by omega) k2⟩
def PeqPost (w0 : World) (g N a b : Nat) (p : El) (d : Array El) (w : World) (e : Ending) (w' : World) : Prop := ∃ (m : Nat) (d' : Array El), e = .returned (.int .i64 m) ∧ R w0 g N d' w' ∧ Up w0 w w' ∧ Equalled a b m p d d'

set_option maxHeartbeats 4000000 in
set_option maxRecDepth 100000 in
theorem peq_any {w0 w : World} {g N : Nat} {d : Array El} (h : R w0 g N d w) (hN : N ≤ 65536) (a b q : Nat) (h1 : a ≤ q) (h2 : q < b) (hb : b ≤ N) :
    Calls Try.prog 30 #[dv g N, .int .i64 a, .int .i64 b, .int .i64 q] w (PeqPost w0 g N a b d[q]! d w) := by
  have hs := h.size
  have H := Lib.hid h
  have HS := Lib.hid hs
  have mL := meth_less g N
  have mS := meth_swap g N
  have HP := Lib.hid (einv_start hs hb h1 h2)
  clear h hs
  obtain ⟨p, hp⟩ : ∃ p, d[q]! = p := ⟨_, rfl⟩
  rw [hp] at HP ⊢
  clear hp
  go_enter Try.func30, Try.ntmps30
  go_wp2_with fail
  refine (swap_at H.out a q (by omega) (by omega) rfl rfl).mono ?_
  rintro e w1 ⟨rfl, hR1, hU1⟩
  have H1 := Lib.hid (And.intro hR1 hU1)
  obtain ⟨d1, hd1⟩ : ∃ x, swp d a q = x := ⟨_, rfl⟩
  rw [hd1] at H1 HP
  clear hR1 hU1 hd1
  go_wp2_with fail
  go_loopw [9, 10] (fun s9 s10 wr => ∃ (i j : Nat) (dk : Array El), s9 = .int .i64 i ∧ s10 = .int .i64 j ∧ R w0 g N dk wr ∧ Up w0 w wr ∧ EInv a b i j N p d dk) (fun s9 s10 _ => (intOf s10 + 1 - intOf s9).toNat)
  case atStart => exact ⟨a + 1, b - 1, d1, by go_num, by congr 1 <;> omega, H1.out.1, H1.out.2, HP.out⟩
  case round =>
    obtain ⟨i0, j0, dk, rfl, rfl, hR, hU, hP⟩ := hrel
    have hai0 := hP.ai
    have hij0 := hP.ij
    have hjb0 := hP.jb
    have HK := Lib.hid (And.intro hR (And.intro hU hP))
    clear hR hU hP
    go_wp2_with fail
    obtain ⟨wo, rfl⟩ : ∃ wo : World, wo = wr := ⟨_, rfl⟩
    go_loopw [9] (fun s9 wr => ∃ i : Nat, s9 = .int .i64 i ∧ i0 ≤ i ∧ R w0 g N dk wr ∧ Up w0 w wr ∧ EInv a b i j0 N p d dk) (fun s9 _ => j0 + 1 - (intOf s9).toNat)
    case atStart => exact ⟨i0, rfl, Nat.le_refl _, HK.out.1, HK.out.2.1, HK.out.2.2⟩
    case round =>
      obtain ⟨i, rfl, hii, hR, hU, hP⟩ := hrel
      have hai := hP.ai
      have hij := hP.ij
      have HL := Lib.hid (And.intro hR (And.intro hU hP))
      clear hR hU hP
      by_cases hle : i ≤ j0
      · cases hL : ltE dk[a]! dk[i]! with
        | false =>
          have HE := Lib.hid hL
          clear hL
          go_wp2_with fail
          refine (less_at HL.out.1 a i HE.out (by omega) (by omega) rfl rfl).mono ?_
          rintro e w2 ⟨rfl, hR2, hU2⟩
          go_wp2_with fail
          go_roundw
          case rel => exact ⟨i + 1, by go_num, by omega, hR2, HL.out.2.1.trans hU2, HL.out.2.2.up hle HE.out⟩
          case measure => simp [intOf]; omega
        | true =>
          have HE := Lib.hid hL
          clear hL
          go_wp2_with fail
          refine (less_at HL.out.1 a i HE.out (by omega) (by omega) rfl rfl).mono ?_
          rintro e w2 ⟨rfl, hR2, hU2⟩
          have H2 := Lib.hid (And.intro hR2 (HL.out.2.1.trans hU2))
          clear hR2 hU2
          go_wp2_with fail
          go_loopw [10] (fun s10 wr => ∃ j : Nat, s10 = .int .i64 j ∧ j ≤ j0 ∧ R w0 g N dk wr ∧ Up w0 w wr ∧ EInv a b i j N p d dk) (fun s10 _ => (intOf s10).toNat)
          case atStart => exact ⟨j0, rfl, Nat.le_refl _, H2.out.1, H2.out.2, HL.out.2.2⟩
          case round =>
            obtain ⟨j, rfl, hjj, hR, hU, hP⟩ := hrel
            have hij2 := hP.ij
            have HJ := Lib.hid (And.intro hR (And.intro hU hP))
            clear hR hU hP
            by_cases hle2 : i ≤ j
            · cases hL2 : ltE dk[a]! dk[j]! with
              | true =>
                have HE2 := Lib.hid hL2
                clear hL2
                go_wp2_with fail
                refine (less_at HJ.out.1 a j HE2.out (by omega) (by omega) rfl rfl).mono ?_
                rintro e w3 ⟨rfl, hR3, hU3⟩
                go_wp2_with fail
                go_roundw
                case rel => exact ⟨j - 1, by congr 1 <;> omega, by omega, hR3, HJ.out.2.1.trans hU3, HJ.out.2.2.down hle2⟩
                case measure => simp [intOf]; omega
              | false =>
                have HE2 := Lib.hid hL2
                clear hL2
                go_wp2_with fail
                refine (less_at HJ.out.1 a j HE2.out (by omega) (by omega) rfl rfl).mono ?_
                rintro e w3 ⟨rfl, hR3, hU3⟩
                have H3 := Lib.hid (And.intro hR3 (HJ.out.2.1.trans hU3))
                clear hR3 hU3
                obtain ⟨hP4, hlt4⟩ := HJ.out.2.2.swap HS.out hb hle2 HE.out HE2.out
                have H4 := Lib.hid hP4
                clear hP4
                go_wp2_with fail
                refine (swap_at H3.out.1 i j (by omega) (by omega) rfl rfl).mono ?_
                rintro e w4 ⟨rfl, hR4, hU4⟩
                have H5 := Lib.hid (And.intro hR4 (H3.out.2.trans hU4))
                clear hR4 hU4
                go_wp2_with fail
                go_roundw
                case rel => exact ⟨i + 1, j - 1, _, by go_num, by congr 1 <;> omega, H5.out.1, H5.out.2, H4.out⟩
                case measure => simp [intOf]; omega
            · go_wp2_with fail
              go_ret
              exact ⟨i, dk, rfl, HJ.out.1, HJ.out.2.1, HJ.out.2.2.stop⟩
      · have H2 := Lib.hid (And.intro HL.out.1 HL.out.2.1)
        go_wp2_with fail
        go_loopw [10] (fun s10 wr => ∃ j : Nat, s10 = .int .i64 j ∧ j ≤ j0 ∧ R w0 g N dk wr ∧ Up w0 w wr ∧ EInv a b i j N p d dk) (fun s10 _ => (intOf s10).toNat)
        case atStart => exact ⟨j0, rfl, Nat.le_refl _, H2.out.1, H2.out.2, HL.out.2.2⟩
        case round =>
          obtain ⟨j, rfl, hjj, hR, hU, hP⟩ := hrel
          have hij2 := hP.ij
          have HJ := Lib.hid (And.intro hR (And.intro hU hP))
          clear hR hU hP
          have hle2 : ¬ i ≤ j := by omega
          go_wp2_with fail
          go_ret
          exact ⟨i, dk, rfl, HJ.out.1, HJ.out.2.1, HJ.out.2.2.stop⟩
end Go.Proofs.Ytmnoffiblcnjpaa
