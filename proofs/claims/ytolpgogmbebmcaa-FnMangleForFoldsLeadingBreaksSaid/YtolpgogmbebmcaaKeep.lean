/-
  The contract of dropFirstStatement where there is nothing to drop: the replacement, or an empty statement at the body's place; conditions: those that each case names.
-/
import Derived.Test.YtolpgogmbebmcaaDrop2
namespace Go.Proofs.Ytolpgogmbebmcaa
open Go.RowKit

set_option maxHeartbeats 1000000 in
set_option maxRecDepth 100000 in
theorem keep_block_repl (g cap : Nat) (A : Option Addr) (c : Int) (T : Nat) (p : Option Addr) (bl rl : Int) (w : World) (hB : Blk w g (.slice A 0 cap) c) :
    Calls Try.prog 26 #[.agg #[.iface 26 (.pointer (some ⟨g, 0, none⟩)), .int .i32 bl], .agg #[.iface T (.pointer p), .int .i32 rl]] w fun e w' => e = .returned (.agg #[.iface T (.pointer p), .int .i32 rl]) ∧ Below w.heap.size w w' := by
  have t1 := ta26
  have hg := hB.lt
  have hc3 := cell3 hB.cell hg
  clear hB
  have t2 := ni28
  go_enter Try.func26, Try.ntmps26
  go_wp2
  refine bodyPost_ret (v := .agg #[.iface T (.pointer p), .int .i32 rl]) (by simp [results, Try.results26, go_sem]) rfl ⟨rfl, ?_⟩
  exact below3 _ _ _ _

set_option maxHeartbeats 1000000 in
set_option maxRecDepth 100000 in
theorem keep_block_none (g cap : Nat) (A : Option Addr) (c : Int) (bl rl : Int) (w : World) (hB : Blk w g (.slice A 0 cap) c) :
    Calls Try.prog 26 #[.agg #[.iface 26 (.pointer (some ⟨g, 0, none⟩)), .int .i32 bl], .agg #[.nilIface, .int .i32 rl]] w fun e w' => (∃ b, e = .returned (.agg #[.iface 76 (.pointer (some ⟨b, 0, none⟩)), .int .i32 bl])) ∧ Below w.heap.size w w' := by
  have t1 := ta26
  have hg := hB.lt
  have hc3 := cell3 hB.cell hg
  clear hB
  have t2 := nn28
  go_enter Try.func26, Try.ntmps26
  go_wp2
  refine bodyPost_ret (v := .agg #[.iface 76 (.pointer (some ⟨w.heap.size + 1 + 1 + 1, 0, none⟩)), .int .i32 bl]) (by simp [results, Try.results26, go_sem]) rfl ⟨⟨_, rfl⟩, ?_⟩
  exact (below3 _ _ _ _).alloc (by simp; omega) _

set_option maxHeartbeats 1000000 in
set_option maxRecDepth 100000 in
theorem keep_other_repl (T0 : Nat) (p0 : Option Addr) (T : Nat) (p : Option Addr) (bl rl : Int) (w : World) (hT : ¬ T0 = 26) :
    Calls Try.prog 26 #[.agg #[.iface T0 (.pointer p0), .int .i32 bl], .agg #[.iface T (.pointer p), .int .i32 rl]] w fun e w' => e = .returned (.agg #[.iface T (.pointer p), .int .i32 rl]) ∧ Below w.heap.size w w' := by
  have t1 : ∀ (v : Value) (w : World), (Instr.typeAssert (.iface T0 v) 28 26 true).run Try.prog w = .ok (.tuple #[.pointer none, .bool false]) w := fun v w => by rw [ta26, if_neg hT]
  have t2 := ni28
  go_enter Try.func26, Try.ntmps26
  go_wp2
  refine bodyPost_ret (v := .agg #[.iface T (.pointer p), .int .i32 rl]) (by simp [results, Try.results26, go_sem]) rfl ⟨rfl, ?_⟩
  exact below3 _ _ _ _

set_option maxHeartbeats 1000000 in
set_option maxRecDepth 100000 in
theorem keep_other_none (T0 : Nat) (p0 : Option Addr) (bl rl : Int) (w : World) (hT : ¬ T0 = 26) :
    Calls Try.prog 26 #[.agg #[.iface T0 (.pointer p0), .int .i32 bl], .agg #[.nilIface, .int .i32 rl]] w fun e w' => (∃ b, e = .returned (.agg #[.iface 76 (.pointer (some ⟨b, 0, none⟩)), .int .i32 bl])) ∧ Below w.heap.size w w' := by
  have t1 : ∀ (v : Value) (w : World), (Instr.typeAssert (.iface T0 v) 28 26 true).run Try.prog w = .ok (.tuple #[.pointer none, .bool false]) w := fun v w => by rw [ta26, if_neg hT]
  have t2 := nn28
  go_enter Try.func26, Try.ntmps26
  go_wp2
  refine bodyPost_ret (v := .agg #[.iface 76 (.pointer (some ⟨w.heap.size + 1 + 1 + 1, 0, none⟩)), .int .i32 bl]) (by simp [results, Try.results26, go_sem]) rfl ⟨⟨_, rfl⟩, ?_⟩
  exact (below3 _ _ _ _).alloc (by simp; omega) _

set_option maxHeartbeats 1000000 in
set_option maxRecDepth 100000 in
theorem keep_nil_repl (T : Nat) (p : Option Addr) (bl rl : Int) (w : World)  :
    Calls Try.prog 26 #[.agg #[.nilIface, .int .i32 bl], .agg #[.iface T (.pointer p), .int .i32 rl]] w fun e w' => e = .returned (.agg #[.iface T (.pointer p), .int .i32 rl]) ∧ Below w.heap.size w w' := by
  have t1 := tn26
  have t2 := ni28
  go_enter Try.func26, Try.ntmps26
  go_wp2
  refine bodyPost_ret (v := .agg #[.iface T (.pointer p), .int .i32 rl]) (by simp [results, Try.results26, go_sem]) rfl ⟨rfl, ?_⟩
  exact below3 _ _ _ _

set_option maxHeartbeats 1000000 in
set_option maxRecDepth 100000 in
theorem keep_nil_none (bl rl : Int) (w : World)  :
    Calls Try.prog 26 #[.agg #[.nilIface, .int .i32 bl], .agg #[.nilIface, .int .i32 rl]] w fun e w' => (∃ b, e = .returned (.agg #[.iface 76 (.pointer (some ⟨b, 0, none⟩)), .int .i32 bl])) ∧ Below w.heap.size w w' := by
  have t1 := tn26
  have t2 := nn28
  go_enter Try.func26, Try.ntmps26
  go_wp2
  refine bodyPost_ret (v := .agg #[.iface 76 (.pointer (some ⟨w.heap.size + 1 + 1 + 1, 0, none⟩)), .int .i32 bl]) (by simp [results, Try.results26, go_sem]) rfl ⟨⟨_, rfl⟩, ?_⟩
  exact (below3 _ _ _ _).alloc (by simp; omega) _

end Go.Proofs.Ytolpgogmbebmcaa
