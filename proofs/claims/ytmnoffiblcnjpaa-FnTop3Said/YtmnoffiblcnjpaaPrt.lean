/-
  sort.partition and sort.partitionEqual over the elements: what they leave; conditions: those that each lemma names.
-/
import Derived.Test.YtmnoffiblcnjpaaHs
namespace Go.Proofs.Ytmnoffiblcnjpaa
open Go.RowKit Go.Sort

theorem perm_swp {a b i j N : Nat} {d dk : Array El} (h : PermIn a b d dk) (hs : d.size = N) (hb : b ≤ N) (h1 : a ≤ i) (h2 : i < b) (h3 : a ≤ j) (h4 : j < b) : PermIn a b d (swp dk i j) :=
  permIn_trans _ _ _ _ _ h (swp_permIn dk a b i j h1 h2 h3 h4 (by rw [h.1, hs]; exact hb))
structure PInv (a b i j N : Nat) (d dk : Array El) : Prop where
  perm : PermIn a b d dk
  ai : a < i
  ij : i ≤ j + 1
  jb : j < b
  lo : ∀ k, a < k → k < i → ltE dk[k]! dk[a]! = true
  hi : ∀ k, j < k → k < b → ltE dk[k]! dk[a]! = false
theorem PInv.up {a b i j N : Nat} {d dk : Array El} (h : PInv a b i j N d dk) (hij : i ≤ j) (hl : ltE dk[i]! dk[a]! = true) : PInv a b (i + 1) j N d dk :=
  ⟨h.perm, by have := h.ai; omega, by omega, h.jb, fun k h1 h2 => by
    by_cases e : k = i
    · rw [e]; exact hl
    · exact h.lo k h1 (by omega), h.hi⟩
theorem PInv.down {a b i j N : Nat} {d dk : Array El} (h : PInv a b i j N d dk) (hij : i ≤ j) (hl : ltE dk[j]! dk[a]! = false) : PInv a b i (j - 1) N d dk :=
  ⟨h.perm, h.ai, by omega, by have := h.jb; omega, h.lo, fun k h1 h2 => by
    by_cases e : k = j
    · rw [e]; exact hl
    · exact h.hi k (by have := h.ai; omega) h2⟩
theorem PInv.swap {a b i j N : Nat} {d dk : Array El} (h : PInv a b i j N d dk) (hs : d.size = N) (hb : b ≤ N) (hij : i ≤ j) (h1 : ltE dk[i]! dk[a]! = false) (h2 : ltE dk[j]! dk[a]! = true) : PInv a b (i + 1) (j - 1) N d (swp dk i j) ∧ i < j := by
  have hne : i ≠ j := by
    rintro rfl
    rw [h1] at h2
    cases h2
  have hai := h.ai
  have hjb := h.jb
  have hsk : dk.size = N := h.perm.1.trans hs
  have hlt : i < j := by omega
  have ga : (swp dk i j)[a]! = dk[a]! := swp_other dk i j a (by omega) (by omega)
  refine ⟨⟨perm_swp h.perm hs hb (by omega) (by omega) (by omega) hjb, by omega, by omega, by omega, fun k k1 k2 => ?_, fun k k1 k2 => ?_⟩, hlt⟩
  · rw [ga]
    by_cases e : k = i
    · rw [e, swp_left dk i j (by omega) hne]; exact h2
    · rw [swp_other dk i j k e (by omega)]; exact h.lo k k1 (by omega)
  · rw [ga]
    by_cases e : k = j
    · rw [e, swp_right dk i j (by omega)]; exact h1
    · rw [swp_other dk i j k (by omega) e]; exact h.hi k (by omega) k2
/-- What partition leaves. -/
structure Parted (a b m : Nat) (d d' : Array El) : Prop where
  perm : PermIn a b d d'
  am : a ≤ m
  mb : m < b
  lo : ∀ k, a ≤ k → k < m → ltE d'[k]! d'[m]! = true
  hi : ∀ k, m < k → k < b → ltE d'[k]! d'[m]! = false
theorem PInv.stop {a b i j N : Nat} {d dk : Array El} (h : PInv a b i j N d dk) (hs : d.size = N) (hb : b ≤ N) (hij : ¬ i ≤ j) : Parted a b j d (swp dk j a) := by
  have hai := h.ai
  have hjb := h.jb
  have hij' := h.ij
  have hsk : dk.size = N := h.perm.1.trans hs
  have haj : a ≤ j := by omega
  have gj : (swp dk j a)[j]! = dk[a]! := by
    by_cases e : j = a
    · rw [e, swp_right dk a a (by omega)]
    · rw [swp_left dk j a (by omega) e]
  refine ⟨perm_swp h.perm hs hb haj hjb (Nat.le_refl _) (by omega), haj, hjb, fun k k1 k2 => ?_, fun k k1 k2 => ?_⟩
  · rw [gj]
    by_cases e : k = a
    · rw [e, swp_right dk j a (by omega)]; exact h.lo j (by omega) (by omega)
    · rw [swp_other dk j a k (by omega) e]; exact h.lo k (by omega) (by omega)
  · rw [gj, swp_other dk j a k (by omega) (by omega)]; exact h.hi k k1 k2
theorem pinv_start {a b p N : Nat} {d : Array El} (hs : d.size = N) (hb : b ≤ N) (h1 : a ≤ p) (h2 : p < b) : PInv a b (a + 1) (b - 1) N d (swp d a p) :=
  ⟨perm_swp (permIn_refl d a b) hs hb (Nat.le_refl _) (by omega) h1 h2, by omega, by omega, by omega, fun k k1 k2 => by omega, fun k k1 k2 => by omega⟩

structure EInv (a b i j N : Nat) (p : El) (d dk : Array El) : Prop where
  perm : PermIn a b d dk
  ai : a < i
  ij : i ≤ j + 1
  jb : j < b
  pa : dk[a]! = p
  lo : ∀ k, a < k → k < i → ltE p dk[k]! = false
theorem EInv.up {a b i j N : Nat} {p : El} {d dk : Array El} (h : EInv a b i j N p d dk) (hij : i ≤ j) (hl : ltE dk[a]! dk[i]! = false) : EInv a b (i + 1) j N p d dk :=
  ⟨h.perm, by have := h.ai; omega, by omega, h.jb, h.pa, fun k h1 h2 => by
    by_cases e : k = i
    · rw [e, ← h.pa]; exact hl
    · exact h.lo k h1 (by omega)⟩
theorem EInv.down {a b i j N : Nat} {p : El} {d dk : Array El} (h : EInv a b i j N p d dk) (hij : i ≤ j) : EInv a b i (j - 1) N p d dk :=
  ⟨h.perm, h.ai, by have := h.ai; omega, by have := h.jb; omega, h.pa, h.lo⟩
theorem EInv.swap {a b i j N : Nat} {p : El} {d dk : Array El} (h : EInv a b i j N p d dk) (hs : d.size = N) (hb : b ≤ N) (hij : i ≤ j) (h1 : ltE dk[a]! dk[i]! = true) (h2 : ltE dk[a]! dk[j]! = false) : EInv a b (i + 1) (j - 1) N p d (swp dk i j) ∧ i < j := by
  have hne : i ≠ j := by
    rintro rfl
    rw [h1] at h2
    cases h2
  have hai := h.ai
  have hjb := h.jb
  have hsk : dk.size = N := h.perm.1.trans hs
  have hlt : i < j := by omega
  refine ⟨⟨perm_swp h.perm hs hb (by omega) (by omega) (by omega) hjb, by omega, by omega, by omega, by rw [swp_other dk i j a (by omega) (by omega)]; exact h.pa, fun k k1 k2 => ?_⟩, hlt⟩
  by_cases e : k = i
  · rw [e, swp_left dk i j (by omega) hne, ← h.pa]; exact h2
  · rw [swp_other dk i j k e (by omega)]; exact h.lo k k1 (by omega)
theorem einv_start {a b q N : Nat} {d : Array El} (hs : d.size = N) (hb : b ≤ N) (h1 : a ≤ q) (h2 : q < b) : EInv a b (a + 1) (b - 1) N d[q]! d (swp d a q) :=
  ⟨perm_swp (permIn_refl d a b) hs hb (Nat.le_refl _) (by omega) h1 h2, by omega, by omega, by omega, by
    by_cases e : a = q
    · rw [e, swp_right d q q (by omega)]
    · rw [swp_left d a q (by omega) e], fun k k1 k2 => by omega⟩

def PartPost (w0 : World) (g N a b : Nat) (d : Array El) (w : World) (e : Ending) (w' : World) : Prop := ∃ (m : Nat) (fl : Bool) (d' : Array El), e = .returned (.tuple #[.int .i64 m, .bool fl]) ∧ R w0 g N d' w' ∧ Up w0 w w' ∧ Parted a b m d d'
set_option maxHeartbeats 4000000 in
set_option maxRecDepth 100000 in
theorem part_any {w0 w : World} {g N : Nat} {d : Array El} (h : R w0 g N d w) (hN : N ≤ 65536) (a b p : Nat) (h1 : a ≤ p) (h2 : p < b) (hb : b ≤ N) :
    Calls Try.prog 31 #[dv g N, .int .i64 a, .int .i64 b, .int .i64 p] w (PartPost w0 g N a b d w) := by
  have hs := h.size
  have H := Lib.hid h
  have HS := Lib.hid hs
  have mL := meth_less g N
  have mS := meth_swap g N
  clear h hs
  go_enter Try.func31, Try.ntmps31
  go_wp2_with fail
  refine (swap_at H.out a p (by omega) (by omega) rfl rfl).mono ?_
  rintro e w1 ⟨rfl, hR1, hU1⟩
  have H1 := Lib.hid (And.intro hR1 (And.intro hU1 (pinv_start HS.out hb h1 h2)))
  obtain ⟨d1, hd1⟩ : ∃ x, swp d a p = x := ⟨_, rfl⟩
  rw [hd1] at H1
  clear hR1 hU1 hd1
  go_wp2_with fail
  go_loopw [10] (fun s10 wr => ∃ i : Nat, s10 = .int .i64 i ∧ R w0 g N d1 wr ∧ Up w0 w wr ∧ PInv a b i (b - 1) N d d1) (fun s10 _ => b - (intOf s10).toNat)
  case atStart => exact ⟨a + 1, by go_num, H1.out.1, H1.out.2.1, H1.out.2.2⟩
  case round =>
    obtain ⟨i, rfl, hR, hU, hP⟩ := hrel
    have hai := hP.ai
    have hij := hP.ij
    have HK := Lib.hid (And.intro hR (And.intro hU hP))
    clear hR hU hP
    by_cases hle : i ≤ b - 1
    · cases hL : ltE d1[i]! d1[a]! with
      | true =>
        have HE := Lib.hid hL
        clear hL
        go_wp2_with fail
        refine (less_at HK.out.1 i a HE.out (by omega) (by omega) rfl rfl).mono ?_
        rintro e w2 ⟨rfl, hR2, hU2⟩
        go_wp2_with fail
        go_roundw
        case rel => exact ⟨i + 1, by go_num, hR2, HK.out.2.1.trans hU2, HK.out.2.2.up hle HE.out⟩
        case measure => simp [intOf]; omega
      | false =>
        have HE := Lib.hid hL
        clear hL
        go_wp2_with fail
        refine (less_at HK.out.1 i a HE.out (by omega) (by omega) rfl rfl).mono ?_
        rintro e w2 ⟨rfl, hR2, hU2⟩
        have H2 := Lib.hid (And.intro hR2 (HK.out.2.1.trans hU2))
        clear hR2 hU2
        go_wp2_with fail
        go_loopw [11] (fun s11 wr => ∃ j : Nat, s11 = .int .i64 j ∧ j ≤ b - 1 ∧ R w0 g N d1 wr ∧ Up w0 w wr ∧ PInv a b i j N d d1) (fun s11 _ => (intOf s11).toNat)
        case atStart => exact ⟨b - 1, by go_num, Nat.le_refl _, H2.out.1, H2.out.2, HK.out.2.2⟩
        case round =>
          obtain ⟨j, rfl, hjb, hR, hU, hP⟩ := hrel
          have hij := hP.ij
          have HJ := Lib.hid (And.intro hR (And.intro hU hP))
          clear hR hU hP
          by_cases hle2 : i ≤ j
          · cases hL2 : ltE d1[j]! d1[a]! with
            | false =>
              have HE2 := Lib.hid hL2
              clear hL2
              go_wp2_with fail
              refine (less_at HJ.out.1 j a HE2.out (by omega) (by omega) rfl rfl).mono ?_
              rintro e w3 ⟨rfl, hR3, hU3⟩
              go_wp2_with fail
              go_roundw
              case rel => exact ⟨j - 1, by congr 1 <;> omega, by omega, hR3, HJ.out.2.1.trans hU3, HJ.out.2.2.down hle2 HE2.out⟩
              case measure => simp [intOf]; omega
            | true =>
              have HE2 := Lib.hid hL2
              clear hL2
              go_wp2_with fail
              refine (less_at HJ.out.1 j a HE2.out (by omega) (by omega) rfl rfl).mono ?_
              rintro e w3 ⟨rfl, hR3, hU3⟩
              have H3 := Lib.hid (And.intro hR3 (HJ.out.2.1.trans hU3))
              clear hR3 hU3
              obtain ⟨hP4, hlt4⟩ := HJ.out.2.2.swap HS.out hb hle2 HE.out HE2.out
              have H4 := Lib.hid hP4
              clear hP4
              go_wp2_with fail
              refine (swap_at H3.out.1 i j (by omega) (by omega) rfl rfl).mono ?_
              rintro e w4 ⟨rfl, hR4, hU4⟩
              have H5 := Lib.hid (And.intro hR4 (H3.out.2.trans hU4))
              clear hR4 hU4
              obtain ⟨d2, hd2⟩ : ∃ x, swp d1 i j = x := ⟨_, rfl⟩
              rw [hd2] at H4 H5
              clear hd2
              go_wp2_with fail
              go_loopw [10, 11] (fun s10 s11 wr => ∃ (i j : Nat) (dk : Array El), s10 = .int .i64 i ∧ s11 = .int .i64 j ∧ R w0 g N dk wr ∧ Up w0 w wr ∧ PInv a b i j N d dk) (fun s10 s11 _ => (intOf s11 + 1 - intOf s10).toNat)
              case atStart => exact ⟨i + 1, j - 1, d2, by go_num, by congr 1 <;> omega, H5.out.1, H5.out.2, H4.out⟩
              case round =>
                clear HE HE2 H2 H3 HJ HK H4 H5 hlt4 hle2 hle hij hai hjb
                obtain ⟨i0, j0, dk, rfl, rfl, hR, hU, hP⟩ := hrel
                have hai0 := hP.ai
                have hij0 := hP.ij
                have hjb0 := hP.jb
                have HK := Lib.hid (And.intro hR (And.intro hU hP))
                clear hR hU hP
                go_wp2_with fail
                obtain ⟨wo, rfl⟩ : ∃ wo : World, wo = wr := ⟨_, rfl⟩
                go_loopw [10] (fun s10 wr => ∃ i : Nat, s10 = .int .i64 i ∧ i0 ≤ i ∧ R w0 g N dk wr ∧ Up w0 w wr ∧ PInv a b i j0 N d dk) (fun s10 _ => j0 + 1 - (intOf s10).toNat)
                case atStart => exact ⟨i0, rfl, Nat.le_refl _, HK.out.1, HK.out.2.1, HK.out.2.2⟩
                case round =>
                  obtain ⟨i, rfl, hii, hR, hU, hP⟩ := hrel
                  have hai := hP.ai
                  have hij := hP.ij
                  have HL := Lib.hid (And.intro hR (And.intro hU hP))
                  clear hR hU hP
                  by_cases hle : i ≤ j0
                  · cases hL : ltE dk[i]! dk[a]! with
                    | true =>
                      have HE := Lib.hid hL
                      clear hL
                      go_wp2_with fail
                      refine (less_at HL.out.1 i a HE.out (by omega) (by omega) rfl rfl).mono ?_
                      rintro e w2 ⟨rfl, hR2, hU2⟩
                      go_wp2_with fail
                      go_roundw
                      case rel => exact ⟨i + 1, by go_num, by omega, hR2, HL.out.2.1.trans hU2, HL.out.2.2.up hle HE.out⟩
                      case measure => simp [intOf]; omega
                    | false =>
                      have HE := Lib.hid hL
                      clear hL
                      go_wp2_with fail
                      refine (less_at HL.out.1 i a HE.out (by omega) (by omega) rfl rfl).mono ?_
                      rintro e w2 ⟨rfl, hR2, hU2⟩
                      have H2 := Lib.hid (And.intro hR2 (HL.out.2.1.trans hU2))
                      clear hR2 hU2
                      go_wp2_with fail
                      go_loopw [11] (fun s11 wr => ∃ j : Nat, s11 = .int .i64 j ∧ j ≤ j0 ∧ R w0 g N dk wr ∧ Up w0 w wr ∧ PInv a b i j N d dk) (fun s11 _ => (intOf s11).toNat)
                      case atStart => exact ⟨j0, rfl, Nat.le_refl _, H2.out.1, H2.out.2, HL.out.2.2⟩
                      case round =>
                        obtain ⟨j, rfl, hjj, hR, hU, hP⟩ := hrel
                        have hij2 := hP.ij
                        have HJ := Lib.hid (And.intro hR (And.intro hU hP))
                        clear hR hU hP
                        by_cases hle2 : i ≤ j
                        · cases hL2 : ltE dk[j]! dk[a]! with
                          | false =>
                            have HE2 := Lib.hid hL2
                            clear hL2
                            go_wp2_with fail
                            refine (less_at HJ.out.1 j a HE2.out (by omega) (by omega) rfl rfl).mono ?_
                            rintro e w3 ⟨rfl, hR3, hU3⟩
                            go_wp2_with fail
                            go_roundw
                            case rel => exact ⟨j - 1, by congr 1 <;> omega, by omega, hR3, HJ.out.2.1.trans hU3, HJ.out.2.2.down hle2 HE2.out⟩
                            case measure => simp [intOf]; omega
                          | true =>
                            have HE2 := Lib.hid hL2
                            clear hL2
                            go_wp2_with fail
                            refine (less_at HJ.out.1 j a HE2.out (by omega) (by omega) rfl rfl).mono ?_
                            rintro e w3 ⟨rfl, hR3, hU3⟩
                            have H3 := Lib.hid (And.intro hR3 (HJ.out.2.1.trans hU3))
                            clear hR3 hU3
                            obtain ⟨hP4, hlt4⟩ := HJ.out.2.2.swap HS.out hb hle2 HE.out HE2.out
                            have H4 := Lib.hid hP4
                            clear hP4
                            go_wp2_with fail
                            refine (swap_at H3.out.1 i j (by omega) (by omega) rfl rfl).mono ?_
                            rintro e w4 ⟨rfl, hR4, hU4⟩
                            have H5 := Lib.hid (And.intro hR4 (H3.out.2.trans hU4))
                            clear hR4 hU4
                            go_wp2_with fail
                            go_roundw
                            case rel => exact ⟨i + 1, j - 1, _, by go_num, by congr 1 <;> omega, H5.out.1, H5.out.2, H4.out⟩
                            case measure => simp [intOf]; omega
                        · have hst := HJ.out.2.2.stop HS.out hb hle2
                          have H3 := Lib.hid hst
                          clear hst
                          go_wp2_with fail
                          refine (swap_at HJ.out.1 j a (by omega) (by omega) rfl rfl).mono ?_
                          rintro e w4 ⟨rfl, hR4, hU4⟩
                          have H4 := Lib.hid (And.intro hR4 (HJ.out.2.1.trans hU4))
                          clear hR4 hU4
                          go_wp2_with fail
                          go_ret2
                          exact ⟨j, false, _, rfl, H4.out.1, H4.out.2, H3.out⟩
                  · have H2 := Lib.hid (And.intro HL.out.1 HL.out.2.1)
                    go_wp2_with fail
                    go_loopw [11] (fun s11 wr => ∃ j : Nat, s11 = .int .i64 j ∧ j ≤ j0 ∧ R w0 g N dk wr ∧ Up w0 w wr ∧ PInv a b i j N d dk) (fun s11 _ => (intOf s11).toNat)
                    case atStart => exact ⟨j0, rfl, Nat.le_refl _, H2.out.1, H2.out.2, HL.out.2.2⟩
                    case round =>
                      obtain ⟨j, rfl, hjj, hR, hU, hP⟩ := hrel
                      have hij2 := hP.ij
                      have HJ := Lib.hid (And.intro hR (And.intro hU hP))
                      clear hR hU hP
                      by_cases hle2 : i ≤ j
                      · exfalso
                        omega
                      · have hst := HJ.out.2.2.stop HS.out hb hle2
                        have H3 := Lib.hid hst
                        clear hst
                        go_wp2_with fail
                        refine (swap_at HJ.out.1 j a (by omega) (by omega) rfl rfl).mono ?_
                        rintro e w4 ⟨rfl, hR4, hU4⟩
                        have H4 := Lib.hid (And.intro hR4 (HJ.out.2.1.trans hU4))
                        clear hR4 hU4
                        go_wp2_with fail
                        go_ret2
                        exact ⟨j, false, _, rfl, H4.out.1, H4.out.2, H3.out⟩
          · have hst := HJ.out.2.2.stop HS.out hb hle2
            have H3 := Lib.hid hst
            clear hst
            go_wp2_with fail
            refine (swap_at HJ.out.1 j a (by omega) (by omega) rfl rfl).mono ?_
            rintro e w4 ⟨rfl, hR4, hU4⟩
            have H4 := Lib.hid (And.intro hR4 (HJ.out.2.1.trans hU4))
            clear hR4 hU4
            go_wp2_with fail
            go_ret2
            exact ⟨j, true, _, rfl, H4.out.1, H4.out.2, H3.out⟩
    · have H2 := Lib.hid (And.intro HK.out.1 HK.out.2.1)
      go_wp2_with fail
      go_loopw [11] (fun s11 wr => ∃ j : Nat, s11 = .int .i64 j ∧ j ≤ b - 1 ∧ R w0 g N d1 wr ∧ Up w0 w wr ∧ PInv a b i j N d d1) (fun s11 _ => (intOf s11).toNat)
      case atStart => exact ⟨b - 1, by go_num, Nat.le_refl _, H2.out.1, H2.out.2, HK.out.2.2⟩
      case round =>
        obtain ⟨j, rfl, hjb, hR, hU, hP⟩ := hrel
        have hij := hP.ij
        have HJ := Lib.hid (And.intro hR (And.intro hU hP))
        clear hR hU hP
        by_cases hle2 : i ≤ j
        · exfalso
          omega
        · have hst := HJ.out.2.2.stop HS.out hb hle2
          have H3 := Lib.hid hst
          clear hst
          go_wp2_with fail
          refine (swap_at HJ.out.1 j a (by omega) (by omega) rfl rfl).mono ?_
          rintro e w4 ⟨rfl, hR4, hU4⟩
          have H4 := Lib.hid (And.intro hR4 (HJ.out.2.1.trans hU4))
          clear hR4 hU4
          go_wp2_with fail
          go_ret2
          exact ⟨j, true, _, rfl, H4.out.1, H4.out.2, H3.out⟩
end Go.Proofs.Ytmnoffiblcnjpaa
