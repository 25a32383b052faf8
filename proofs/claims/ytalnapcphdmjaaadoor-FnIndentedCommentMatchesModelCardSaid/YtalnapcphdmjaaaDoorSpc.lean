/-
  The contract of b2Spaces; conditions: the sizes that it names.
-/
import Derived.Test.YtalnapcphdmjaaaDoorEql
namespace Go.Proofs.YtalnapcphdmjaaaDoor
open Go.RowKit

def SpRel (B : Nat) (l : List UInt8) (k : Nat) (w : World) (s0 : Value) (wr : World) : Prop := w.heap.size ≤ wr.heap.size ∧ ∃ a len cap, s0 = .slice a len cap ∧ wr.ownsRow B 5 1 (.slice a len cap) (Lib.byteCells (l ++ List.replicate (2 * k) 32)).length (Lib.byteCells (l ++ List.replicate (2 * k) 32)) ∧ Below B w wr

set_option maxHeartbeats 2000000 in
set_option maxRecDepth 100000 in
theorem spaces_any (B : Nat) (a : Option Addr) (len cap : Nat) (l : List UInt8) (K : Nat) (w : World) (hown : w.ownsRow B 5 1 (.slice a len cap) (Lib.byteCells l).length (Lib.byteCells l)) (hl : l.length ≤ 1099511627776) (hK : K ≤ 65536) (hBw : B ≤ w.heap.size) :
    Calls Tryd.prog 13 #[.slice a len cap, .int .i64 K] w (ZEnd B (l ++ List.replicate (2 * K) 32) w) := by
  obtain ⟨i0, hi, hz0, hz1, hz2⟩ := info_parts bld_byte
  have HI := Lib.hid (And.intro hi (And.intro hz0 (And.intro hz1 hz2)))
  clear hi hz0 hz1 hz2
  have H0 : SpRel B l 0 w (.slice a len cap) w := ⟨Nat.le_refl _, a, len, cap, rfl, by simpa using hown, Below.refl _ _⟩
  clear hown
  go_enter Tryd.func13, Tryd.ntmps13
  go_wp2
  go_loopw [0, 5] (fun s0 i wr => ∃ k : Nat, k ≤ K ∧ i = .int .i64 k ∧ SpRel B l k w s0 wr) (fun _ i _ => K - (intOf i).toNat)
  case atStart => exact ⟨0, Nat.zero_le _, rfl, H0⟩
  case round =>
    clear H0
    obtain ⟨k, hk, rfl, hszr, a1, len1, cap1, rfl, hown, hb⟩ := hrel
    by_cases hlt : k < K
    · go_wp2_with (at_builtin; refine wpList_append_own _ rfl _ _ 22 rfl B 5 i0 (.int .u8 0) 1 1 Tryd.underlying22 HI.out.1 HI.out.2.1 HI.out.2.2.1 HI.out.2.2.2 rfl (by decide) _ _ _ rfl (hown.alloc _) ⟨wr.heap.size, 0, none⟩ 2 2 [.int .u8 32, .int .u8 32] rfl rfl ?a1 ?a2 ?a3 ?a4 ?a5 ?_)
      case a1 =>
        intro j u hj
        have hj2 := (List.getElem?_eq_some_iff.1 hj).1
        simp at hj2
        rcases (show j = 0 ∨ j = 1 by omega) with rfl | rfl
        · injection hj with hj
          subst hj
          simp [Addr.add]
        · injection hj with hj
          subst hj
          simp [Addr.add]
      case a2 =>
        intro u hu
        simp at hu
        subst hu
        rfl
      case a3 => rw [Lib.byteCells_length, List.length_append, List.length_replicate]; unfold maxLen; simp; omega
      case a4 => rw [Lib.byteCells_length, List.length_append, List.length_replicate]; simp; omega
      case a5 => simp; omega
      intro v' w2 hown' hgrow _
      obtain ⟨ao, n', cp, rfl⟩ : ∃ ao n' cp, v' = .slice ao n' cp := by
        rcases hown'.2 with ⟨e, _⟩ | ⟨g, cap, cur, e, _⟩ <;> exact ⟨_, _, _, e⟩
      go_wp2_with fail
      have hgs := hgrow.size
      refine ⟨⟨k + 1, by omega, by go_num, by simp at hgs; omega, ao, n', cp, rfl, two_more hown', (hb.alloc (by omega) _).grown hgrow (by simp; omega) (fun k hk => (hown.lt k hk).1)⟩, by simp [intOf]; omega⟩
    · obtain rfl : k = K := by omega
      go_wp2_with fail
      go_ret
      exact ⟨a1, len1, cap1, rfl, hown, hb⟩

end Go.Proofs.YtalnapcphdmjaaaDoor
