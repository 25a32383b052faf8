/-
  The walk of the law that relative paths are kept: it returns true for every input; conditions: none (an input beyond the guards answers at once).
-/
import Derived.Test.YtckkpbeiigapeaaDoorWalkA
namespace Go.Proofs.YtckkpbeiigapeaaDoor
open Go.RowKit

theorem Ls_ne {ss : List ByteArray} (h : ss ≠ []) : Ls ss ≠ [] := by
  intro e
  have := congrArg List.length e
  simp [Ls] at this
  exact h this
theorem slash_add (l : Bs) (h : l.length ≤ 4194304) (wx : World) : (Op.stringOp .add ⟨#[47]⟩ (S l)).run Tryd.prog wx = .ok (.string (S (47 :: l))) wx := by
  have := run_add_S (P := Tryd.prog) ⟨#[47]⟩ (S l) (by rw [S_size]; show 1 + _ ≤ _; omega) wx
  rw [S_data] at this
  exact this
theorem head_no {p : ByteArray} (h0 : 0 < p.size) (h : ((p[0].toNat : Int) == 47) = false) : p.data.toList.head? ≠ some 47 := by
  rw [List.head?_eq_getElem?, Lib.data_getElem? p 0 h0]
  intro e
  rw [Option.some.inj e] at h
  exact absurd h (by decide)
theorem head_nil {p : ByteArray} (h0 : ¬ 0 < p.size) : p.data.toList.head? ≠ some 47 := by
  have : p.data.toList = [] := List.eq_nil_of_length_eq_zero (by rw [← Lib.size_eq]; omega)
  rw [this]
  simp

set_option maxHeartbeats 8000000 in
set_option maxRecDepth 100000 in
theorem fnPrettyPrintPathKeepsRelativePaths_walk (a0 : Option Addr) (l0 c0 : Nat) (ss : List ByteArray) (p : ByteArray) (w : World) (h0 : InRow w a0 l0 c0 (ss.map Value.string)) (hs : ∀ s ∈ ss, s.size ≤ maxLen) (hp : p.size ≤ maxLen) (_ : True) :
    Calls Tryd.prog 3 #[.slice a0 l0 c0, .string p] w fun e w' => e = .returned (.bool true) ∧ Below w.heap.size w w' := by
  have hlen := h0.len
  rw [List.length_map] at hlen
  have H0 := Lib.hid h0
  have HS := Lib.hid hs
  have HP := Lib.hid hp
  have HL := Lib.hid hlen
  clear h0 hs hp hlen
  go_enter Tryd.func3, Tryd.ntmps3
  go_wp2_with fail
  refine (bytesA_any a0 l0 c0 ss p _ H0.out HS.out HP.out).mono ?_
  rintro e w' ⟨b, rfl, rfl, hb⟩
  cases b
  · clear hb
    go_wp2_with fail
    go_ret
    exact ⟨rfl, Below.refl _ _⟩
  have htot := hb rfl
  clear hb
  go_wp2_with fail
  refine (strsBytes_any a0 l0 c0 ss _ H0.out (by omega)).mono ?_
  rintro e w' ⟨rfl, rfl⟩
  obtain ⟨m, hm⟩ : ∃ m, tot ss = m := ⟨_, rfl⟩
  rw [hm] at htot ⊢
  have HM := Lib.hid hm
  clear hm
  by_cases hbig : 16 * l0 + m + p.size ≤ 1048576
  · by_cases hz : l0 = 0
    · have q : ((l0 : Int) == 0) = true := by rw [hz]; rfl
      go_wp2_with fail
      go_ret
      exact ⟨rfl, Below.refl _ _⟩
    have q : ((l0 : Int) == 0) = false := by rw [beq_eq_false_iff_ne]; omega
    go_wp2_with fail
    refine (allValid_any a0 l0 c0 ss _ H0.out HS.out (by omega)).mono ?_
    rintro e w' ⟨b, rfl, rfl, hb⟩
    cases b
    · clear hb
      go_wp2_with fail
      go_ret
      exact ⟨rfl, Below.refl _ _⟩
    have HV := Lib.hid (hb rfl)
    clear hb
    have hne : ss ≠ [] := by
      rintro rfl
      exact hz HL.out.symm
    have hjl : (J (Ls ss)).length ≤ 2097152 := by
      have h1 := J_len_tot ss
      have h2 := HL.out
      have h3 := HM.out
      omega
    have hadd := slash_add (J (Ls ss)) (by omega)
    have HN := Lib.hid (And.intro hne hjl)
    clear hne hjl
    by_cases hp0 : 0 < p.size
    · cases q1 : ((p[0].toNat : Int) == 47)
      · have HH := Lib.hid (head_no hp0 q1)
        have hz8 := Lib.hid (fun wx => zz8_no (Ls ss) p wx (Ls_ne HN.out.1) HV.out HH.out (by have := HN.out.2; omega) (by omega))
        go_wp2_with fail
        refine (join_any a0 l0 c0 ss _ H0.out (by have := HM.out; omega)).mono ?_
        rintro e w1 ⟨rfl, hb1⟩
        have HB1 := Lib.hid hb1
        clear hb1
        go_wp2_with fail
        refine (hz8.out _).mono ?_
        rintro e w2 ⟨rfl, hb2⟩
        go_wp2_with fail
        go_ret
        exact ⟨by simp, HB1.out.trans (hb2.mono HB1.out.size)⟩
      · go_wp2_with fail
        go_ret
        exact ⟨rfl, Below.refl _ _⟩
    · have HH := Lib.hid (head_nil hp0)
      have hz8 := Lib.hid (fun wx => zz8_no (Ls ss) p wx (Ls_ne HN.out.1) HV.out HH.out (by have := HN.out.2; omega) (by omega))
      have hp1 : ¬ (0 : Int) < p.size := by omega
      go_wp2_with fail
      refine (join_any a0 l0 c0 ss _ H0.out (by have := HM.out; omega)).mono ?_
      rintro e w1 ⟨rfl, hb1⟩
      have HB1 := Lib.hid hb1
      clear hb1
      go_wp2_with fail
      refine (hz8.out _).mono ?_
      rintro e w2 ⟨rfl, hb2⟩
      go_wp2_with fail
      go_ret
      exact ⟨by simp, HB1.out.trans (hb2.mono HB1.out.size)⟩
  · go_wp2_with fail
    go_ret
    exact ⟨rfl, Below.refl _ _⟩
end Go.Proofs.YtckkpbeiigapeaaDoor
