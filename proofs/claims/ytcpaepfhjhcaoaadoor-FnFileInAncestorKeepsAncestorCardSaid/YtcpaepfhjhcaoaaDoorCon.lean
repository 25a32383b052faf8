/-
  The contracts of the search for a separator at the empty text and at a text that begins with a slash, of the runes of an ASCII text and of their lower case; conditions: those that each names.
-/
import Derived.Test.YtcpaepfhjhcaoaaDoorMck
import Derived.Deep.DeepCutAuto
import Derived.Deep.CutBlock
import Derived.BigQuiet
import Derived.Deep.QuietTactic
import Derived.Lib.DecodeN
namespace Go.Proofs.YtcpaepfhjhcaoaaDoor
open Go.RowKit

theorem dec_at (s : ByteArray) (i : Nat) (hi : i < s.size) (hx : s[i].toNat < 128) (w : World) : Calls Tryd.prog 22 #[.string (s.extract i s.size)] w fun e w' => e = .returned (.tuple #[.int .i32 (s[i].toNat : Int), .int .i64 1]) ∧ w = w' := by
  refine (Tryd.utf8_DecodeRuneInString_ascii (s.extract i s.size) s[i] w ?_ hx).mono fun e w' ⟨h1, h2⟩ => ⟨h1, h2.symm⟩
  have h' : i < s.data.toList.length := by rw [← Lib.size_eq]; exact hi
  rw [Lib.extract_data, List.drop_eq_getElem_cons h']
  have : s.size - i = (s.size - i - 1) + 1 := by omega
  rw [this, List.take_succ_cons]
  rfl
theorem dec_end (s : ByteArray) (w : World) (hT : Lib.Utf8Tabs 0 1 w) : Calls Tryd.prog 22 #[.string (s.extract s.size s.size)] w fun e w' => e = .returned (.tuple #[.int .i32 65533, .int .i64 0]) ∧ Below w.heap.size w w' := by
  have h := Tryd.utf8_DecodeRuneInString (s.extract s.size s.size) w hT
  have e : s.extract s.size s.size = ByteArray.empty := by
    rw [extract_S, Nat.sub_self, List.take_zero]
    rfl
  rw [e] at h ⊢
  exact h
theorem low32 (a : UInt8) (ha : a.toNat < 128) (w : World) : Calls Tryd.prog 23 #[.int .i32 (a.toNat : Int)] w fun e w' => e = .returned (.int .i32 ((low a).toNat : Int)) ∧ w = w' := by
  refine (Tryd.unicode_ToLower (a.toNat : Int) w (by omega)).mono fun e w' ⟨h1, h2⟩ => ⟨?_, h2.symm⟩
  rw [h1]
  unfold Lib.toLowerR
  rw [low_int]

theorem iter_below (w : World) (s : ByteArray) (i : Nat) : Below w.heap.size w (w.iter s i) := by
  unfold World.iter
  exact (Below.refl _ _).alloc (Nat.le_refl _) _
theorem iter_new (w : World) (s : ByteArray) : (w.iter s 0).heap[w.heap.size]? = some (.stringIter s 0) := World.iter_heap w s 0
set_option maxHeartbeats 1000000 in
theorem idx_empty (s c : ByteArray) (h : s.size = 0) (w : World) : Calls Tryd.prog 33 #[.string s, .string c] w fun e w' => e = .returned (.int .i64 (-1)) ∧ Below w.heap.size w w' := by
  have hnx : ∀ ty, (Instr.next (.pointer (some ⟨w.heap.size, 0, none⟩)) true ty).run Tryd.prog (w.iter s 0) = _ := fun ty => Lib.run_next_end_at (w.iter s 0) w.heap.size s 0 ty (iter_new w s) (by omega)
  go_enter Tryd.func33, Tryd.ntmps33
  go_wp2
  refine wp_loop_rounds 1 ?_
  rw [rounds_succ]
  go_wp2
  go_ret
  exact ⟨rfl, iter_below _ _ _⟩

theorem iterAt_size (w : World) (k : Nat) (s : ByteArray) (p : Nat) : (w.iterAt k s p).heap.size = w.heap.size := by simp [World.iterAt]
theorem iter_size (w : World) (s : ByteArray) (p : Nat) : (w.iter s p).heap.size = w.heap.size + 1 := by simp [World.iter]
def sepC : ByteArray := ⟨#[92, 47]⟩
set_option maxHeartbeats 1000000 in
theorem idx_slash (s : ByteArray) (h : s.data.toList[0]? = some 47) (w : World) : Calls Tryd.prog 33 #[.string s, .string sepC] w fun e w' => e = .returned (.int .i64 0) ∧ Below w.heap.size w w' := by
  have h0 : 0 < s.size := by rw [Lib.size_eq]; exact (List.getElem?_eq_some_iff.1 h).1
  have hb : s[0] = 47 := by
    rw [Lib.data_getElem? s 0 h0] at h
    exact Option.some.inj h
  have n1 : ∀ ty, (Instr.next (.pointer (some ⟨w.heap.size, 0, none⟩)) true ty).run Tryd.prog (w.iter s 0) = .ok (.tuple #[.bool true, .int .i64 0, .int .i32 47]) ((w.iter s 0).iterAt w.heap.size s 1) := fun ty => by
    have := Lib.run_next_ascii_at (P := Tryd.prog) (w.iter s 0) w.heap.size s 0 ty (iter_new w s) h0 (by rw [hb]; decide)
    rw [hb] at this
    exact this
  obtain ⟨W1, hW1⟩ : ∃ W1, (w.iter s 0).iterAt w.heap.size s 1 = W1 := ⟨_, rfl⟩
  have hsz : W1.heap.size = w.heap.size + 1 := by rw [← hW1, iterAt_size, iter_size]
  have hbel : Below w.heap.size w W1 := by rw [← hW1]; exact Lib.below_iterAt (iter_below _ _ _) (Nat.le_refl _) _ _
  rw [hW1] at n1
  have n2 : ∀ ty, (Instr.next (.pointer (some ⟨W1.heap.size, 0, none⟩)) true ty).run Tryd.prog (W1.iter sepC 0) = .ok (.tuple #[.bool true, .int .i64 0, .int .i32 92]) ((W1.iter sepC 0).iterAt W1.heap.size sepC 1) := fun ty => Lib.run_next_ascii_at (P := Tryd.prog) (W1.iter sepC 0) W1.heap.size sepC 0 ty (iter_new W1 sepC) (by decide) (by decide)
  have n3 : ∀ ty, (Instr.next (.pointer (some ⟨W1.heap.size, 0, none⟩)) true ty).run Tryd.prog ((W1.iter sepC 0).iterAt W1.heap.size sepC 1) = .ok (.tuple #[.bool true, .int .i64 1, .int .i32 47]) (((W1.iter sepC 0).iterAt W1.heap.size sepC 1).iterAt W1.heap.size sepC 2) := fun ty => Lib.run_next_ascii_at (P := Tryd.prog) _ W1.heap.size sepC 1 ty (Lib.iterAt_heap _ _ _ _ _ (iter_new W1 sepC)) (by decide) (by decide)
  have hb2 : Below w.heap.size w (((W1.iter sepC 0).iterAt W1.heap.size sepC 1).iterAt W1.heap.size sepC 2) := Lib.below_iterAt (Lib.below_iterAt (hbel.trans ((iter_below W1 sepC 0).mono hbel.size)) hbel.size _ _) hbel.size _ _
  have HB := Lib.hid hb2
  clear hbel hb2 hW1 h hb h0 hsz
  go_enter Tryd.func33, Tryd.ntmps33
  go_wp2
  refine wp_loop_rounds 1 ?_
  rw [rounds_succ]
  go_wp2
  refine wp_loop_rounds 2 ?_
  rw [rounds_succ]
  go_wp2
  rw [rounds_succ]
  go_wp2
  go_ret
  exact ⟨rfl, HB.out⟩

theorem con_empty (s : ByteArray) (h : s.size = 0) (w : World) : Calls Tryd.prog 24 #[.string s, .string sepC] w fun e w' => e = .returned (.bool false) ∧ Below w.heap.size w w' := by
  go_enter Tryd.func24, Tryd.ntmps24
  go_wp2_with fail
  refine (idx_empty s sepC h _).mono ?_
  rintro e w' ⟨rfl, hb⟩
  go_wp2_with fail
  go_ret
  exact ⟨rfl, hb⟩
theorem con_slash (s : ByteArray) (h : s.data.toList[0]? = some 47) (w : World) : Calls Tryd.prog 24 #[.string s, .string sepC] w fun e w' => e = .returned (.bool true) ∧ Below w.heap.size w w' := by
  have HC := Lib.hid (idx_slash s h)
  clear h
  go_enter Tryd.func24, Tryd.ntmps24
  go_wp2_with fail
  refine (HC.out _).mono ?_
  rintro e w' ⟨rfl, hb⟩
  go_wp2_with fail
  go_ret
  exact ⟨rfl, hb⟩
end Go.Proofs.YtcpaepfhjhcaoaaDoor
