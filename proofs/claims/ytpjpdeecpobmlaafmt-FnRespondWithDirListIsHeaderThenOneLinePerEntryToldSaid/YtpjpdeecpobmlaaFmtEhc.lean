/-
  The contracts of the two escapers; conditions: the sizes that each names.
-/
import Derived.Test.YtpjpdeecpobmlaaFmtRepl
import Derived.Test.YtpjpdeecpobmlaaFmtEnt
import Derived.Deep.QuietTactic
import Derived.BigQuiet
namespace Go.Proofs.YtpjpdeecpobmlaaFmt
open Go.RowKit

theorem replace1 (s old new : ByteArray) (c : UInt8) (n : List UInt8) (w : World) (hc : old.data.toList = [c]) (hnw : new.data.toList = n) (hn : n.length ≤ 6) (hs : s.size ≤ 134217728) :
    Calls Tryf.prog 25 #[.string s, .string old, .string new] w fun e w' => e = .returned (.string (S (rep1 c n s.data.toList))) ∧ Below w.heap.size w w' := by
  have e1 : old.size = 1 := by rw [Lib.size_eq, hc]; rfl
  have e2 : new.size = n.length := by rw [Lib.size_eq, hnw]
  have h1 : s.size * (new.size + 1) ≤ s.size * 7 := Nat.mul_le_mul_left _ (by omega)
  have h := replaceAll_any s old new w (by omega) (by omega) (by omega) (by omega)
  rw [hc, hnw, repl_one c n s.size _ (by rw [Lib.size_eq]; exact Nat.le_refl _)] at h
  exact h

set_option maxHeartbeats 400000 in
theorem html_any (s : ByteArray) (w : World) (hs : s.size ≤ 1048576) :
    Calls Tryf.prog 15 #[.string s] w fun e w' => e = .returned (.string (S (esc false s.data.toList))) ∧ Below w.heap.size w w' := by
  have l1 := rep1_length 38 [38, 97, 109, 112, 59] s.data.toList
  have l2 := rep1_length 60 [38, 108, 116, 59] (rep1 38 [38, 97, 109, 112, 59] s.data.toList)
  rw [← Lib.size_eq] at l1
  simp only [List.length_cons, List.length_nil] at l1 l2
  have HE := Lib.hid (esc_html s.data.toList)
  go_enter Tryf.func15, Tryf.ntmps15
  go_wp2_with fail
  refine (replace1 s _ _ 38 [38, 97, 109, 112, 59] _ rfl rfl (by decide) (by omega)).mono ?_
  rintro e w1 ⟨rfl, hb1⟩
  go_wp2_with fail
  refine (replace1 (S (rep1 38 [38, 97, 109, 112, 59] s.data.toList)) _ _ 60 [38, 108, 116, 59] _ rfl rfl (by decide) (by rw [S_size]; omega)).mono ?_
  rintro e w2 ⟨rfl, hb2⟩
  rw [S_data]
  go_wp2_with fail
  refine (replace1 (S (rep1 60 [38, 108, 116, 59] (rep1 38 [38, 97, 109, 112, 59] s.data.toList))) _ _ 62 [38, 103, 116, 59] _ rfl rfl (by decide) (by rw [S_size]; omega)).mono ?_
  rintro e w3 ⟨rfl, hb3⟩
  rw [S_data, HE.out]
  go_wp2_with fail
  go_ret
  exact ⟨rfl, (hb1.trans (hb2.mono hb1.size)).trans (hb3.mono (Nat.le_trans hb1.size hb2.size))⟩

set_option maxHeartbeats 400000 in
theorem attr_any (s : ByteArray) (w : World) (hs : s.size ≤ 1048576) :
    Calls Tryf.prog 17 #[.string s] w fun e w' => e = .returned (.string (S (esc true s.data.toList))) ∧ Below w.heap.size w w' := by
  have l0 := esc_length false s.data.toList
  have l1 := rep1_length 34 [38, 113, 117, 111, 116, 59] (esc false s.data.toList)
  rw [← Lib.size_eq] at l0
  simp only [List.length_cons, List.length_nil] at l1
  have HE := Lib.hid (esc_attr s.data.toList)
  go_enter Tryf.func17, Tryf.ntmps17
  go_wp2_with fail
  refine (html_any s _ hs).mono ?_
  rintro e w1 ⟨rfl, hb1⟩
  go_wp2_with fail
  refine (replace1 (S (esc false s.data.toList)) _ _ 34 [38, 113, 117, 111, 116, 59] _ rfl rfl (by decide) (by rw [S_size]; omega)).mono ?_
  rintro e w2 ⟨rfl, hb2⟩
  rw [S_data]
  go_wp2_with fail
  refine (replace1 (S (rep1 34 [38, 113, 117, 111, 116, 59] (esc false s.data.toList))) _ _ 39 [38, 97, 112, 111, 115, 59] _ rfl rfl (by decide) (by rw [S_size]; omega)).mono ?_
  rintro e w3 ⟨rfl, hb3⟩
  rw [S_data, HE.out]
  go_wp2_with fail
  go_ret
  exact ⟨rfl, (hb1.trans (hb2.mono hb1.size)).trans (hb3.mono (Nat.le_trans hb1.size hb2.size))⟩

end Go.Proofs.YtpjpdeecpobmlaaFmt
