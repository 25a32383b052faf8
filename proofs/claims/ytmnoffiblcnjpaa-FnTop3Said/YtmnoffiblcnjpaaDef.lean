/-
  CharFreq.Scan at delta 0; conditions: those that each lemma names.
-/
import Derived.Test.YtmnoffiblcnjpaaCnt
namespace Go.Proofs.Ytmnoffiblcnjpaa
open Go.RowKit Go.Sort

theorem scan_zero (f : Nat) (s : ByteArray) (dl : Int) (h0 : (dl == 0) = true) (w : World) : Calls Try.prog 4 #[.pointer (some ⟨f, 0, none⟩), .string s, .int .i32 dl] w fun e w' => e = .returned (.tuple #[]) ∧ w = w' := by
  go_enter Try.func4, Try.ntmps4
  go_wp2_with fail
  refine bodyPost_ret (results_none rfl _ _ _) rfl ?_
  exact ⟨rfl, rfl⟩
/-- Scan from the table of zeros. -/
theorem scan_all (f : Nat) (s : ByteArray) (dl : Int) (w : World) (h : Tb f 23 w (fun _ => 0) w) (hs : s.size ≤ 1048576) :
    Calls Try.prog 4 #[.pointer (some ⟨f, 0, none⟩), .string s, .int .i32 dl] w fun e w' => e = .returned (.tuple #[]) ∧ Tb f 23 w (cnt dl (fun _ => 0) s.data.toList) w' := by
  by_cases hd : dl = 0
  · subst hd
    refine (scan_zero f s 0 rfl w).mono ?_
    rintro e w' ⟨rfl, rfl⟩
    rw [cnt_zero]
    exact ⟨rfl, h⟩
  · exact scan_any f s dl hd _ w h hs
/-- The letters, as the counts know them. -/
def jsT : List UInt8 := [97, 98, 99, 100, 101, 102, 103, 104, 105, 106, 107, 108, 109, 110, 111, 112, 113, 114, 115, 116, 117, 118, 119, 120, 121, 122, 65, 66, 67, 68, 69, 70, 71, 72, 73, 74, 75, 76, 77, 78, 79, 80, 81, 82, 83, 84, 85, 86, 87, 88, 89, 90, 48, 49, 50, 51, 52, 53, 54, 55, 56, 57, 95, 36]
def ixI (c : UInt8) : Int := match ixc c with
  | none => -1
  | some i => i
theorem ixc_index : ∀ n : Fin 256, Lib.indexByte jsT (UInt8.ofNat n) = ixI (UInt8.ofNat n) := by decide +kernel
theorem ixc_byte (c : UInt8) : Lib.indexByte jsT c = ixI c := by
  have := ixc_index ⟨c.toNat, c.toNat_lt⟩
  simpa using this
end Go.Proofs.Ytmnoffiblcnjpaa
