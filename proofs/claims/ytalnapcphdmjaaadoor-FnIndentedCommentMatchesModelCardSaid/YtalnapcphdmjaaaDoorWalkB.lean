/-
  The walk of the law that an indented comment never emits a closing style tag, at every input; conditions: what the listed tables hold.
-/
import Derived.Test.YtalnapcphdmjaaaDoorWalkA
namespace Go.Proofs.YtalnapcphdmjaaaDoor
open Go.RowKit

theorem bytes_of (zs : List Int) (h : ∀ n ∈ zs, (Lit.int .u8 n).wf = true) : ∃ l : List UInt8, zs.map (Value.int .u8) = Lib.byteCells l := by
  refine ⟨zs.map fun z => UInt8.ofNat z.toNat, ?_⟩
  unfold Lib.byteCells
  rw [List.map_map]
  refine List.map_congr_left fun z hz => ?_
  have hw := h z hz
  have h2 : 0 ≤ z ∧ z ≤ 255 := by simpa [Lit.wf, IntKind.min, IntKind.max, IntKind.signed, IntKind.bits] using hw
  show Value.int .u8 z = Value.int .u8 ((UInt8.ofNat z.toNat).toNat : Int)
  congr 1
  rw [UInt8.toNat_ofNat']
  omega

set_option maxHeartbeats 2000000 in
set_option maxRecDepth 100000 in
theorem fnIndentedCommentNeverEmitsClosingStyleTag_walk (mini : Bool) (lim : Int) (a : Option Addr) (len cap : Nat) (zs : List Int) (n : Int) (text : ByteArray) (w : World) (wl : (Lit.int .i64 lim).wf = true) (hin : InRow w a len cap (zs.map (Value.int .u8))) (hz : ∀ n ∈ zs, (Lit.int .u8 n).wf = true) (wn : (Lit.int .i32 n).wf = true) (wt : text.size ≤ maxLen) (hT : Tabs w) :
    Calls Tryd.prog 3 #[.bool mini, .int .i64 lim, .slice a len cap, .int .i32 n, .string text] w fun e w' => e = .returned (.bool true) ∧ Below w.heap.size w w' := by
  obtain ⟨l, hl⟩ := bytes_of zs hz
  rw [hl] at hin
  have hlim : -9223372036854775808 ≤ lim ∧ lim ≤ 9223372036854775807 := by simpa [Lit.wf, IntKind.min, IntKind.max, IntKind.signed, IntKind.bits] using wl
  have hn2 : -2147483648 ≤ n ∧ n ≤ 2147483647 := by simpa [Lit.wf, IntKind.min, IntKind.max, IntKind.signed, IntKind.bits] using wn
  unfold maxLen at wt
  clear wl wn hz hl
  by_cases hsum : len + text.size ≤ 1048576
  · by_cases hn : n ≤ 65536
    · by_cases hp : mini = false → newlines text.data.toList * lv n lim ≤ 262144
      · exact never_full mini lim a len cap l n text w hT hin hsum hn2.1 hn hlim hp
      · obtain ⟨hm, hp⟩ : mini = false ∧ ¬ newlines text.data.toList * lv n lim ≤ 262144 := by
          refine ⟨?_, fun h => hp fun _ => h⟩
          cases mini
          · rfl
          · exact absurd (fun h => by cases h) hp
        subst hm
        have hK : lv n lim ≤ 65536 := lv_le n lim hn
        have hC : newlines text.data.toList ≤ 1048576 := by have := newlines_le text.data.toList; rw [← Lib.size_eq] at this; omega
        have HC := Lib.hid (And.intro (levels_any n lim) (count_any text))
        clear hT hin
        obtain ⟨K, hKe⟩ : ∃ K, lv n lim = K := ⟨_, rfl⟩
        obtain ⟨C, hCe⟩ : ∃ C, newlines text.data.toList = C := ⟨_, rfl⟩
        rw [hKe, hCe] at hp HC
        rw [hKe] at hK
        rw [hCe] at hC
        have m0 : C * K ≤ 1048576 * 65536 := Nat.mul_le_mul hC hK
        obtain ⟨M, hM⟩ : ∃ M, C * K = M := ⟨_, rfl⟩
        rw [hM] at m0 hp
        have hMi : (C : Int) * (K : Int) = (M : Int) := by rw [← hM]; exact (Int.natCast_mul C K).symm
        go_enter Tryd.func3, Tryd.ntmps3
        go_wp2_with (go_at_call 5; refine (zz5_yes _ lim a len cap n text _ hsum).mono ?_; rintro e w' ⟨rfl, rfl⟩)
        refine (HC.out.1 _ hn2.1 hn hlim).mono ?_
        rintro e w' ⟨rfl, rfl⟩
        go_wp2_with (go_at_call 7; refine (HC.out.2 _ (by omega)).mono ?_; rintro e w' ⟨rfl, rfl⟩)
        go_ret
        exact ⟨rfl, Below.refl _ _⟩
    · go_enter Tryd.func3, Tryd.ntmps3
      go_wp2_with (go_at_call 5; refine (zz5_yes _ lim a len cap n text _ hsum).mono ?_; rintro e w' ⟨rfl, rfl⟩)
      go_ret
      exact ⟨rfl, Below.refl _ _⟩
  · go_enter Tryd.func3, Tryd.ntmps3
    go_wp2_with (go_at_call 5; refine (zz5_no _ lim a len cap n text _ (by omega)).mono ?_; rintro e w' ⟨rfl, rfl⟩)
    go_ret
    exact ⟨rfl, Below.refl _ _⟩

end Go.Proofs.YtalnapcphdmjaaaDoor
