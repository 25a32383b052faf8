/-
  The contract of zzIndex: the first place of a text in another, -1 if there is none; conditions: the sizes that it names, the text sought is not empty.
-/
import Derived.Test.YtglchiomdojjoaaGreatFmtRows
import Derived.Test.YtglchiomdojjoaaGreatFmtStr
import Derived.WalkKit
import Derived.WalkSpells
import Derived.WalkLawsBesides
namespace Go.Proofs.YtglchiomdojjoaaGreatFmt
open Go.RowKit

theorem infoU8 : (Tryz.prog.info? 5).map (fun i => (i.zero, i.size, i.bytes)) = some (some (.int .u8 0), 1, 1) := by kernel_rfl

set_option maxHeartbeats 400000 in
theorem index_any (s sub : ByteArray) (w : World) (hs : s.size ≤ 140737488355328) (hsub : sub.size ≤ 140737488355328) (h1 : 1 ≤ sub.size) :
    Calls Tryz.prog 43 #[.string s, .string sub] w fun e w' => e = .returned (.int .i64 (Lib.indexB s sub)) ∧ w = w' := by
  go_enter Tryz.func43, Tryz.ntmps43
  go_wp2
  go_loop [5] (fun i => ∃ k : Nat, k ≤ s.size + 1 ∧ i = .int .i64 k ∧ Lib.NoOccB s sub k) (fun i => s.size + 1 - (intOf i).toNat)
  case atStart => exact ⟨0, Nat.zero_le _, rfl, Lib.NoOcc.zero _ _⟩
  case round =>
    obtain ⟨k, hk, rfl, hno⟩ := hrel
    have HN := Lib.hid hno
    clear hno
    by_cases hlt : k + sub.size ≤ s.size
    · go_wp2
      · have hp : ((s.extract k (k + sub.size)).toList == sub.toList) = true := by assumption
        go_ret
        exact ⟨ret_int (Lib.hit s sub k HN.out hlt hp).symm, rfl⟩
      · have hp : ((s.extract k (k + sub.size)).toList == sub.toList) = false := by assumption
        exact ⟨⟨k + 1, by omega, by go_num, Lib.miss_piece s sub k HN.out hlt hp⟩, by simp [intOf]; omega⟩
    · go_wp2
      go_ret
      exact ⟨ret_int (Lib.past s sub k HN.out h1 (by omega)).symm, rfl⟩

theorem index_no (s sub : ByteArray) (w : World) (hs : s.size ≤ 140737488355328) (hsub : sub.size ≤ 140737488355328) (h1 : 1 ≤ sub.size) (h : Lib.indexB s sub = -1) :
    Calls Tryz.prog 43 #[.string s, .string sub] w fun e w' => e = .returned (.int .i64 (-1)) ∧ w = w' := by
  have := index_any s sub w hs hsub h1
  rwa [h] at this

theorem index_at (s sub : ByteArray) (i : Nat) (w : World) (hs : s.size ≤ 140737488355328) (hsub : sub.size ≤ 140737488355328) (h1 : 1 ≤ sub.size) (h : Lib.indexB s sub = (i : Int)) :
    Calls Tryz.prog 43 #[.string s, .string sub] w fun e w' => e = .returned (.int .i64 (i : Int)) ∧ w = w' := by
  have := index_any s sub w hs hsub h1
  rwa [h] at this

end Go.Proofs.YtglchiomdojjoaaGreatFmt
