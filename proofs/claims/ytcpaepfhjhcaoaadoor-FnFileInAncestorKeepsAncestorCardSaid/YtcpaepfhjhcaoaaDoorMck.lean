/-
  The contracts of making the mock file system over no files and of its Dir at a clean path; conditions: the sizes named.
-/
import Derived.Test.YtcpaepfhjhcaoaaDoorEnt
import Derived.Laws.IdiomRangeMap
import Derived.Test.YtcpaepfhjhcaoaaDoorShelf
namespace Go.Proofs.YtcpaepfhjhcaoaaDoor
open Go.RowKit

def MockAt (s : ByteArray) (w : World) (e : Ending) (w' : World) : Prop :=
  (∃ b, e = .returned (.iface 72 (.pointer (some ⟨b, 0, none⟩))) ∧ w'.cell? ⟨b, 2, none⟩ = some (.string s) ∧ w'.cell? ⟨b, 4, none⟩ = some (.int .u8 0)) ∧ Below w.heap.size w w'

set_option maxHeartbeats 1000000 in
theorem mock_any (s : ByteArray) (w : World) : Calls Tryd.prog 17 #[.map none, .int .u8 0, .string s] w (MockAt s w) := by
  have e2 : ((w.alloc (.map #[] 0)).alloc (.map #[] 0)).heap.size = w.heap.size + 1 + 1 := by simp
  have hm1 := run_makeMap (P := Tryd.prog) 53 w
  have hm2 := run_makeMap (P := Tryd.prog) 52 (w.alloc (.map #[] 0))
  have hrg := run_range_nilMap (P := Tryd.prog) ((w.alloc (.map #[] 0)).alloc (.map #[] 0)) 52 _ _ Tryd.underlying52
  have hnx : ∀ ty, (Instr.next (.pointer (some ⟨((w.alloc (.map #[] 0)).alloc (.map #[] 0)).heap.size, 0, none⟩)) false ty).run Tryd.prog (((w.alloc (.map #[] 0)).alloc (.map #[] 0)).alloc (.mapIter none 0 #[] 0)) = _ := fun ty => run_next_nilMap _ ty 0 0 #[]
  rw [e2] at hrg hnx
  clear e2
  go_enter Tryd.func17, Tryd.ntmps17
  go_wp2
  refine wp_loop_rounds 1 ?_
  rw [rounds_succ]
  go_wp2
  go_ret
  refine ⟨⟨w.heap.size + 1 + 1 + 1, rfl, by go_simp, by go_simp⟩, ?_⟩
  exact ((((Below.refl _ _).alloc (Nat.le_refl _) _).alloc (by simp) _).alloc (by simp; omega) _).alloc (by simp; omega) _

theorem last_T {cs : List Bs} (hc : Comps cs) : LastAt (D cs) (T cs.dropLast).length ∧ (D cs).take ((T cs.dropLast).length + 1) = T cs.dropLast ++ [47] := by
  by_cases h0 : cs = []
  · subst h0
    refine ⟨⟨rfl, fun j hj => ?_⟩, rfl⟩
    have h1 : (T ([] : List Bs).dropLast).length = 0 := rfl
    rw [List.getElem?_eq_none (by show 1 ≤ j; omega)]
    simp
  · have e := (List.dropLast_concat_getLast h0).symm
    have hD : D cs = T cs.dropLast ++ 47 :: cs.getLast h0 := by
      rw [D_T h0]
      conv => lhs; rw [e]
      exact T_snoc _ _
    rw [hD]
    refine ⟨lastAt_snoc _ _ (no47 hc (List.getLast_mem h0)), ?_⟩
    rw [List.take_append, List.take_of_length_le (by omega), show (T cs.dropLast).length + 1 - (T cs.dropLast).length = 1 by omega]
    rfl
theorem split_D {cs : List Bs} (hc : Comps cs) : (Lib.Pa.split (D cs)).1 = T cs.dropLast ++ [47] := by
  obtain ⟨h1, h2⟩ := last_T hc
  unfold Lib.Pa.split
  rcases Lib.Pa.lastIndexByte_spec (D cs) 47 with ⟨_, hn⟩ | ⟨i, he, hi, hno⟩
  · exact absurd h1.1 (hn _)
  · have := LastAt.uniq h1 ⟨hi, hno⟩
    subst this
    rw [he]
    exact h2
theorem pathDir_any (p : ByteArray) (cs : List Bs) (w : World) (hs : p.size ≤ 1073741824) (hp : p.data.toList = D cs) (hc : Comps cs) :
    Calls Tryd.prog 26 #[.string p] w fun e w' => e = .returned (.string (S (D cs.dropLast))) ∧ Below w.heap.size w w' := by
  have := Tryd.path_Dir_rules p w (by omega)
  rw [hp, split_D hc, clean_dir _ hc.dropLast] at this
  exact this

set_option maxHeartbeats 1000000 in
theorem mDir_any (b : Nat) (p : ByteArray) (cs : List Bs) (w : World) (hs : p.size ≤ 1073741824) (hp : p.data.toList = D cs) (hc : Comps cs) (hk : w.cell? ⟨b, 4, none⟩ = some (.int .u8 0)) :
    Calls Tryd.prog 81 #[.pointer (some ⟨b, 0, none⟩), .string p] w fun e w' => e = .returned (.string (S (D cs.dropLast))) ∧ Below w.heap.size w w' := by
  have hbl := World.block_lt_of_cell? w _ hk
  have HC := Lib.hid (fun wx => pathDir_any p cs wx hs hp hc)
  have HU := Lib.hid (fun (wx : World) (h : Below w.heap.size w wx) => (h.cell (p := ⟨b, 4, none⟩) hbl).trans hk)
  clear hp hc hbl
  go_enter Tryd.func81, Tryd.ntmps81
  go_wp2_with fail
  refine (HC.out _).mono ?_
  rintro e w1 ⟨rfl, hb1⟩
  have k1 := HU.out _ hb1
  have HB := Lib.hid hb1
  clear hb1 hk
  go_wp2_with fail
  go_ret
  exact ⟨rfl, HB.out⟩
theorem meth_dir (b : Nat) (w : World) : (method 253 72 (.pointer (some ⟨b, 0, none⟩)) "Dir").run Tryd.prog w = .ok (81, .pointer (some ⟨b, 0, none⟩)) w := by kernel_rfl
theorem nil_dir (b : Nat) (w : World) : (nilAhead 253 72 (.pointer (some ⟨b, 0, none⟩)) "Dir").run Tryd.prog w = .ok (some false) w := by kernel_rfl
end Go.Proofs.YtcpaepfhjhcaoaaDoor
