/-
  The contracts of the mock file system over no files, of its IsAbs, and what is closed about fmt; no conditions.
-/
import Derived.Test.YtkdkjcljdagakaaGreatFmtShelf
import Derived.Test.YtkdkjcljdagakaaGreatFmtMk
import Derived.Laws.IdiomRangeMap
import Derived.Stop.CallBack
import Derived.Stop.IfaceNil
import GoSem.ClaimData
namespace Go.Proofs.YtkdkjcljdagakaaGreatFmt
open Go.RowKit Go.Extern.Stop Go.Stop Go.Extern

theorem call36 (args : Array Value) (w : World) : (callFunc 36 args).run Tryz.prog w = ((FmtStop.sprintf #[9, 209] #[9] args).run Tryz.prog w).andThen fun v w' => .ok (.value v) w' :=
  run_callFunc_extern Tryz.func36 (by kernel_rfl) (by kernel_rfl) (by kernel_rfl) (by kernel_rfl) args w
theorem guard (name : String) (w : World) : (FmtStop.guard name).run Tryz.prog w = .ok () w := by kernel_rfl
theorem fmtS : FmtStop.printed? ⟨#[73, 110, 118, 97, 108, 105, 100, 32, 97, 108, 105, 97, 115, 32, 115, 117, 98, 115, 116, 105, 116, 117, 116, 105, 111, 110, 58, 32, 37, 113]⟩ 1 = some [(0, 113, false)] := by kernel_rfl
theorem fmtSr (w : World) : (FmtDoors.printed ⟨#[73, 110, 118, 97, 108, 105, 100, 32, 97, 108, 105, 97, 115, 32, 115, 117, 98, 115, 116, 105, 116, 117, 116, 105, 111, 110, 58, 32, 37, 113]⟩ 1).run Tryz.prog w = .ok [(0, 113, false)] w := by kernel_rfl
theorem fmtN : FmtStop.printed? ⟨#[73, 110, 118, 97, 108, 105, 100, 32, 97, 108, 105, 97, 115, 32, 110, 97, 109, 101, 58, 32, 37, 113]⟩ 1 = some [(0, 113, false)] := by kernel_rfl
theorem fmtNr (w : World) : (FmtDoors.printed ⟨#[73, 110, 118, 97, 108, 105, 100, 32, 97, 108, 105, 97, 115, 32, 110, 97, 109, 101, 58, 32, 37, 113]⟩ 1).run Tryz.prog w = .ok [(0, 113, false)] w := by kernel_rfl
theorem fmtE : FmtStop.printed? ⟨#[69, 120, 116, 101, 114, 110, 97, 108, 32, 112, 97, 116, 104, 32, 37, 113, 32, 99, 97, 110, 110, 111, 116, 32, 104, 97, 118, 101, 32, 109, 111, 114, 101, 32, 116, 104, 97, 110, 32, 111, 110, 101, 32, 34, 42, 34, 32, 119, 105, 108, 100, 99, 97, 114, 100]⟩ 1 = some [(0, 113, false)] := by kernel_rfl
theorem fmtEr (w : World) : (FmtDoors.printed ⟨#[69, 120, 116, 101, 114, 110, 97, 108, 32, 112, 97, 116, 104, 32, 37, 113, 32, 99, 97, 110, 110, 111, 116, 32, 104, 97, 118, 101, 32, 109, 111, 114, 101, 32, 116, 104, 97, 110, 32, 111, 110, 101, 32, 34, 42, 34, 32, 119, 105, 108, 100, 99, 97, 114, 100]⟩ 1).run Tryz.prog w = .ok [(0, 113, false)] w := by kernel_rfl
def shape9 : List UInt8 := [12, 6, 0, 0, 0, 0, 0, 0, 0, 115, 116, 114, 105, 110, 103]
theorem op9_113 (name : String) (x : ByteArray) (w : World) : (FmtStop.operand name false 113 false (.iface 9 (.string x))).run Tryz.prog w = .ok (shape9, FmtStop.pack x.data.toList) w := by kernel_rfl

set_option maxHeartbeats 1000000 in
theorem isAbs_any (b : Nat) (s : ByteArray) (w : World) (h : w.cell? ⟨b, 4, none⟩ = some (.int .u8 0)) :
    Calls Tryz.prog 137 #[.pointer (some ⟨b, 0, none⟩), .string s] w fun e w' => e = .returned (.bool (Lib.Pa.isAbs s.data.toList)) ∧ w = w' := by
  go_enter Tryz.func137, Tryz.ntmps137
  go_wp2_with (go_at_call 147; refine (Tryz.path_IsAbs s _).mono ?_; rintro e w' ⟨rfl, rfl⟩)
  go_ret
  exact ⟨rfl, rfl⟩

def MockAt (w : World) (e : Ending) (w' : World) : Prop :=
  (∃ b cs, e = .returned (.iface 92 (.pointer (some ⟨b, 0, none⟩))) ∧ w.heap.size ≤ b ∧ w'.heap[b]? = some (.cells cs 94 (0, 0)) ∧ cs[4]? = some (.int .u8 0)) ∧ Below w.heap.size w w'

set_option maxHeartbeats 1000000 in
theorem mock_any (s : ByteArray) (w : World) : Calls Tryz.prog 20 #[.map none, .int .u8 0, .string s] w (MockAt w) := by
  have e2 : ((w.alloc (.map #[] 0)).alloc (.map #[] 0)).heap.size = w.heap.size + 1 + 1 := by simp
  have hm1 := run_makeMap (P := Tryz.prog) 78 w
  have hm2 := run_makeMap (P := Tryz.prog) 26 (w.alloc (.map #[] 0))
  have hrg := run_range_nilMap (P := Tryz.prog) ((w.alloc (.map #[] 0)).alloc (.map #[] 0)) 26 _ _ Tryz.underlying26
  have hnx : ∀ ty, (Instr.next (.pointer (some ⟨((w.alloc (.map #[] 0)).alloc (.map #[] 0)).heap.size, 0, none⟩)) false ty).run Tryz.prog (((w.alloc (.map #[] 0)).alloc (.map #[] 0)).alloc (.mapIter none 0 #[] 0)) = _ := fun ty => run_next_nilMap _ ty 0 0 #[]
  rw [e2] at hrg hnx
  clear e2
  go_enter Tryz.func20, Tryz.ntmps20
  go_wp2
  refine wp_loop_rounds 1 ?_
  rw [rounds_succ]
  go_wp2
  go_ret
  refine ⟨⟨w.heap.size + 1 + 1 + 1, #[.map (some w.heap.size), .map (some (w.heap.size + 1)), .string s, .string ⟨#[]⟩, .int .u8 0], rfl, by omega, ?_, rfl⟩, ?_⟩
  · rw [show w.heap.size + 1 + 1 + 1 = (((w.alloc (.map #[] 0)).alloc (.map #[] 0)).alloc (.mapIter none 0 #[] 0)).heap.size by simp]
    exact heap_alloc_new _ _
  exact ((((Below.refl _ _).alloc (Nat.le_refl _) _).alloc (by simp) _).alloc (by simp; omega) _).alloc (by simp; omega) _
end Go.Proofs.YtkdkjcljdagakaaGreatFmt
