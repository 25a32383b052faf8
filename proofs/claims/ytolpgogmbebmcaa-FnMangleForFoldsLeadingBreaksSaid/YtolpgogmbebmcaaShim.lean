/-
  The contracts of the small shims (the block of a statement, whether it is empty) and of the size guards; conditions: those that each names.
-/
import Derived.Test.YtolpgogmbebmcaaKeep
namespace Go.Proofs.Ytolpgogmbebmcaa
open Go.RowKit

set_option maxHeartbeats 400000 in
theorem blockOf_yes (g : Nat) (l : Int) (w : World) : Calls Try.prog 15 #[.agg #[.iface 26 (.pointer (some ⟨g, 0, none⟩)), .int .i32 l]] w fun e w' => e = .returned (.pointer (some ⟨g, 0, none⟩)) ∧ Below w.heap.size w w' := by
  have t1 := ta26
  go_enter Try.func15, Try.ntmps15
  go_wp2
  go_ret
  exact ⟨rfl, (Below.refl _ _).alloc (Nat.le_refl _) _⟩
set_option maxHeartbeats 400000 in
theorem blockOf_no (T : Nat) (p : Option Addr) (l : Int) (w : World) (hT : ¬ T = 26) : Calls Try.prog 15 #[.agg #[.iface T (.pointer p), .int .i32 l]] w fun e w' => e = .returned (.pointer none) ∧ Below w.heap.size w w' := by
  have t1 : ∀ (v : Value) (w : World), (Instr.typeAssert (.iface T v) 28 26 true).run Try.prog w = .ok (.tuple #[.pointer none, .bool false]) w := fun v w => by rw [ta26, if_neg hT]
  go_enter Try.func15, Try.ntmps15
  go_wp2
  go_ret
  exact ⟨rfl, (Below.refl _ _).alloc (Nat.le_refl _) _⟩
set_option maxHeartbeats 400000 in
theorem blockOf_nil (l : Int) (w : World) : Calls Try.prog 15 #[.agg #[.nilIface, .int .i32 l]] w fun e w' => e = .returned (.pointer none) ∧ Below w.heap.size w w' := by
  have t1 := tn26
  go_enter Try.func15, Try.ntmps15
  go_wp2
  go_ret
  exact ⟨rfl, (Below.refl _ _).alloc (Nat.le_refl _) _⟩
set_option maxHeartbeats 400000 in
theorem isEmpty_yes (p : Option Addr) (l : Int) (w : World) : Calls Try.prog 16 #[.agg #[.iface 76 (.pointer p), .int .i32 l]] w fun e w' => e = .returned (.bool true) ∧ Below w.heap.size w w' := by
  have t1 := ta76
  go_enter Try.func16, Try.ntmps16
  go_wp2
  go_ret
  exact ⟨rfl, (Below.refl _ _).alloc (Nat.le_refl _) _⟩

end Go.Proofs.Ytolpgogmbebmcaa
