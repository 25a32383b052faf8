/-
  The walk of the law that an indented comment matches its model, at every input; conditions: what the listed tables hold.
-/
import Derived.Test.YtalnapcphdmjaaaDoorWalkC
import Derived.Test.YtalnapcphdmjaaaDoorWalkB
namespace Go.Proofs.YtalnapcphdmjaaaDoor
open Go.RowKit

set_option maxHeartbeats 2000000 in
set_option maxRecDepth 100000 in
theorem fnIndentedCommentMatchesModel_walk (mini : Bool) (lim : Int) (uns : Bool) (a : Option Addr) (len cap : Nat) (zs : List Int) (n : Int) (text : ByteArray) (w : World) (wl : (Lit.int .i64 lim).wf = true) (hin : InRow w a len cap (zs.map (Value.int .u8))) (hz : ∀ n ∈ zs, (Lit.int .u8 n).wf = true) (wn : (Lit.int .i32 n).wf = true) (wt : text.size ≤ maxLen) (hT : Tabs w) :
    Calls Tryd.prog 4 #[.bool mini, .int .i64 lim, .bool uns, .slice a len cap, .int .i32 n, .string text] w fun e w' => e = .returned (.bool true) ∧ Below w.heap.size w w' := by
  obtain ⟨l, hl⟩ := bytes_of zs hz
  rw [hl] at hin
  have hlim : -9223372036854775808 ≤ lim ∧ lim ≤ 9223372036854775807 := by simpa [Lit.wf, IntKind.min, IntKind.max, IntKind.signed, IntKind.bits] using wl
  have hn2 : -2147483648 ≤ n ∧ n ≤ 2147483647 := by simpa [Lit.wf, IntKind.min, IntKind.max, IntKind.signed, IntKind.bits] using wn
  unfold maxLen at wt
  clear wl wn hz hl
  by_cases hsum : len + text.size ≤ 1048576
  · by_cases hn : n ≤ 65536
    · by_cases hp : mini = false → newlines text.data.toList * lv n lim ≤ 262144
      · cases uns
        · exact model_styled mini lim a len cap l n text w hT hin hsum hn2.1 hn hlim hp
        · exact model_plain mini lim a len cap l n text w hin hsum hn2.1 hn hlim hp
      · obtain ⟨hm, hp⟩ : mini = false ∧ ¬ newlines text.data.toList * lv n lim ≤ 262144 := by
          refine ⟨?_, fun h => hp fun _ => h⟩
          cases mini
          · rfl
          · exact absurd (fun h => by cases h) hp
        subst hm
        have hK : lv n lim ≤ 65536 := lv_le n lim hn
        have hC : newlines text.data.toList ≤ 1048576 := by have := newlines_le text.data.toList; rw [← Lib.size_eq] at this; omega
        have HC := Lib.hid (And.intro (levels_any n lim) (count_any text))
        clear hT hin
        obtain ⟨K, hKe⟩ : ∃ K, lv n lim = K := ⟨_, rfl⟩
        obtain ⟨C, hCe⟩ : ∃ C, newlines text.data.toList = C := ⟨_, rfl⟩
        rw [hKe, hCe] at hp HC
        rw [hKe] at hK
        rw [hCe] at hC
        have m0 : C * K ≤ 1048576 * 65536 := Nat.mul_le_mul hC hK
        obtain ⟨M, hM⟩ : ∃ M, C * K = M := ⟨_, rfl⟩
        rw [hM] at m0 hp
        have hMi : (C : Int) * (K : Int) = (M : Int) := by rw [← hM]; exact (Int.natCast_mul C K).symm
        go_enter Tryd.func4, Tryd.ntmps4
        go_wp2_with (go_at_call 11; refine (zz11_yes _ lim uns a len cap n text _ hsum).mono ?_; rintro e w' ⟨rfl, rfl⟩)
        refine (HC.out.1 _ hn2.1 hn hlim).mono ?_
        rintro e w' ⟨rfl, rfl⟩
        go_wp2_with (go_at_call 7; refine (HC.out.2 _ (by omega)).mono ?_; rintro e w' ⟨rfl, rfl⟩)
        go_ret
        exact ⟨rfl, Below.refl _ _⟩
    · go_enter Tryd.func4, Tryd.ntmps4
      go_wp2_with (go_at_call 11; refine (zz11_yes _ lim uns a len cap n text _ hsum).mono ?_; rintro e w' ⟨rfl, rfl⟩)
      go_ret
      exact ⟨rfl, Below.refl _ _⟩
  · go_enter Tryd.func4, Tryd.ntmps4
    go_wp2_with (go_at_call 11; refine (zz11_no _ lim uns a len cap n text _ (by omega)).mono ?_; rintro e w' ⟨rfl, rfl⟩)
    go_ret
    exact ⟨rfl, Below.refl _ _⟩

end Go.Proofs.YtalnapcphdmjaaaDoor
