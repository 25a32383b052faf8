/-
  The contracts of the mock file system's Abs and of validatePath over it: some text comes back, nothing is logged; conditions: the size that each names.
-/
import Derived.Test.YtkdkjcljdagakaaGreatFmtVal
import Derived.Lib.CleanLen
namespace Go.Proofs.YtkdkjcljdagakaaGreatFmt
open Go.RowKit Go.Lib

theorem two_at (w : World) (a b : ByteArray) : ∀ (j : Nat) x, ([a, b] : List ByteArray)[j]? = some x → (w.alloc (.cells #[.string a, .string b] 9)).cell? ⟨w.heap.size, 0 + j, none⟩ = some (.string x) := by
  intro j x h
  rw [Nat.zero_add]
  refine (Lib.cell_of_heap (heap_alloc_new w _) j).trans ?_
  match j, h with
  | 0, h => cases h; rfl
  | 1, h => cases h; rfl

theorem lens_p (p : ByteArray) (hp : p.size ≤ 1048576) : Pa.lens (([⟨#[47]⟩, p] : List ByteArray).map (·.data.toList)) + ([⟨#[47]⟩, p] : List ByteArray).length ≤ 1048579 := by
  unfold Pa.lens
  simp
  omega
theorem join_p (p : ByteArray) (hp : p.size ≤ 1048576) : (Pa.joinL (([⟨#[47]⟩, p] : List ByteArray).map (·.data.toList))).length ≤ 1048579 :=
  Nat.le_trans (Pa.joinL_length_le _) (by rw [List.length_map]; exact lens_p p hp)

set_option maxHeartbeats 1000000 in
theorem abs_any (mk : Nat) (p : ByteArray) (w : World) (hp : p.size ≤ 1048576) (h : w.cell? ⟨mk, 4, none⟩ = some (.int .u8 0)) :
    Calls Tryz.prog 131 #[.pointer (some ⟨mk, 0, none⟩), .string p] w fun e w' => (∃ a, e = .returned (.tuple #[.string a, .bool true]) ∧ a.size ≤ 2097152) ∧ Below w.heap.size w w' := by
  have hmk : mk < w.heap.size := World.block_lt_of_cell? w _ h
  go_enter Tryz.func131, Tryz.ntmps131
  go_wp2_with fail
  refine (Tryz.path_Join w.heap.size 0 2 [⟨#[47]⟩, p] _ (two_at w _ _) (by simp) (Nat.le_trans (lens_p p hp) (by decide))).mono ?_
  rintro e w1 ⟨rfl, hb1⟩
  have hj := join_p p hp
  obtain ⟨j, hjj⟩ : ∃ j, Pa.joinL (([⟨#[47]⟩, p] : List ByteArray).map (·.data.toList)) = j := ⟨_, rfl⟩
  rw [hjj]
  have hjl : j.length ≤ 1048579 := by rw [← hjj]; exact hj
  clear hj hjj
  have hb01 : Below w.heap.size w w1 := ((Below.refl _ _).alloc (Nat.le_refl _) _).trans (hb1.mono (by simp))
  have hz1 := hb01.size
  have c1 : w1.cell? ⟨mk, 4, none⟩ = some (.int .u8 0) := by rw [hb01.cell (by exact hmk)]; exact h
  clear hb1
  go_wp2_with fail
  refine (Tryz.path_Clean (S j) _ (by rw [S_size]; omega)).mono ?_
  rintro e w2 ⟨rfl, hb2⟩
  have c2 : w2.cell? ⟨mk, 4, none⟩ = some (.int .u8 0) := by rw [hb2.cell (show mk < w1.heap.size by omega)]; exact c1
  have hb02 := hb01.trans (hb2.mono hz1)
  clear hb2 hb01 c1
  obtain ⟨T, hT⟩ : ∃ T, (⟨(Pa.clean (S j).data.toList).toArray⟩ : ByteArray) = T := ⟨_, rfl⟩
  have hTs : T.size ≤ 2097152 := by
    rw [← hT, Lib.size_eq]
    have := Pa.clean_length_le_succ (S j).data.toList
    rw [S_data] at this
    rw [S_data]
    show (Pa.clean j).length ≤ _
    omega
  rw [hT]
  have HT := Lib.hid hTs
  clear hT hTs
  go_wp2_with fail
  go_ret2
  exact ⟨⟨_, rfl, HT.out⟩, hb02⟩
theorem meth_abs (b : Nat) (w : World) : (method 327 92 (.pointer (some ⟨b, 0, none⟩)) "Abs").run Tryz.prog w = .ok (131, .pointer (some ⟨b, 0, none⟩)) w := by kernel_rfl

set_option maxHeartbeats 1000000 in
theorem vpath_any (bk bu bh bm mk : Nat) (p what : ByteArray) (w : World) (hp : p.size ≤ 1048576) (h : w.cell? ⟨mk, 4, none⟩ = some (.int .u8 0)) :
    Calls Tryz.prog 43 #[logV bk bu bh bm, .iface 92 (.pointer (some ⟨mk, 0, none⟩)), .string p, .string what] w fun e w' => (∃ a, e = .returned (.string a) ∧ a.size ≤ 2097152) ∧ Below w.heap.size w w' := by
  have hmk : mk < w.heap.size := World.block_lt_of_cell? w _ h
  have H := Lib.hid h
  have hme := meth_abs mk
  unfold logV
  cases h0 : p.toList.isEmpty
  · go_enter Tryz.func43, Tryz.ntmps43
    go_upto_region 1 with fail
    obtain ⟨W, hW⟩ : ∃ W, W = w.alloc (.cells #[.func (.func 23) #[] #[.pointer (some ⟨bk, 0, none⟩), .pointer (some ⟨bu, 0, none⟩), .pointer (some ⟨bh, 0, none⟩), .pointer (some ⟨bm, 0, none⟩)], .func (.func 26) #[] #[.pointer (some ⟨bu, 0, none⟩), .pointer (some ⟨bh, 0, none⟩)], .func (.func 27) #[] #[.pointer (some ⟨bu, 0, none⟩), .pointer (some ⟨bm, 0, none⟩)], .func (.func 28) #[] #[.pointer (some ⟨bu, 0, none⟩), .pointer (some ⟨bm, 0, none⟩)], .int .i8 3, .map none] 52) := ⟨_, rfl⟩
    have hbW : Below w.heap.size w W := by rw [hW]; exact (Below.refl _ _).alloc (Nat.le_refl _) _
    rw [← hW]
    clear hW
    have hzW := hbW.size
    have cW : W.cell? ⟨mk, 4, none⟩ = some (.int .u8 0) := by rw [hbW.cell (by exact hmk)]; exact h
    clear h
    go_wp2_with (go_at_call 131; refine (abs_any mk p _ hp cW).mono ?_; rintro e w2 ⟨⟨a, rfl, ha2⟩, hb2⟩; clear cW)
    go_ret
    exact ⟨⟨_, rfl, ha2⟩, hbW.trans (hb2.mono hzW)⟩
  · go_enter Tryz.func43, Tryz.ntmps43
    go_wp2_with fail
    go_ret
    exact ⟨⟨_, rfl, by decide⟩, (Below.refl _ _).alloc (Nat.le_refl _) _⟩
end Go.Proofs.YtkdkjcljdagakaaGreatFmt
