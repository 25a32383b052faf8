/-
  The contract of mangleFor at an if that holds no break to fold: the loop is left untouched; conditions: those that the case names.
-/
import Derived.Test.YtolpgogmbebmcaaFor
namespace Go.Proofs.Ytolpgogmbebmcaa
open Go.RowKit

/-- A branch that is no plain break. -/
def NoBrk (w : World) (v : Value) : Prop := (∃ q, v = .iface 81 (.pointer (some ⟨q, 0, none⟩))) ∨ ∃ k a, v = .iface 60 (.pointer (some ⟨k, 0, none⟩)) ∧ Has w k 63 #[.pointer (some a)]

set_option maxHeartbeats 8000000 in
set_option maxRecDepth 100000 in
theorem mangle_keep (S q : Nat) (T bd X Y N : Value) (TL XL YL NL : Int) (w : World) (hS : ForAt w S T TL bd 16777216) (hf : FirstIs w bd 59 q)
    (hif : Has w q 65 #[X, .int .i32 XL, Y, .int .i32 YL, N, .int .i32 NL, .bool false, .bool false]) (hY : NoBrk w Y) (hN : N = .nilIface ∨ NoBrk w N) :
    Calls Try.prog 27 #[.pointer (some ⟨S, 0, none⟩)] w fun e w' => e = .returned (.tuple #[]) ∧ Below w.heap.size w w' := by
  have q6 := hS.c6
  have q7 := hS.c7
  have hl := hS.lt
  have hql := hif.lt
  have i2 := hif.cell 2 rfl
  have i4 := hif.cell 4 rfl
  have t0 := ta26
  have t1 := ta59
  have t2 := ta60
  have t3 := nn28
  have t4 := ni28
  clear hif hS
  rcases hf with ⟨rfl, hT⟩ | ⟨g, b, n, cap, c, l, rfl, hB, hn, h0, h1⟩
  · rcases hY with ⟨y, rfl⟩ | ⟨k, a, rfl, hk⟩
    · rcases hN with rfl | ⟨z, rfl⟩ | ⟨k2, a2, rfl, hk2⟩
      · go_enter Try.func27, Try.ntmps27
        go_wp2_with fail
        go_end0
        exact ⟨rfl, (Below.refl _ _).alloc (Nat.le_refl _) _⟩
      · go_enter Try.func27, Try.ntmps27
        go_wp2_with fail
        go_end0
        exact ⟨rfl, (Below.refl _ _).alloc (Nat.le_refl _) _⟩
      · have j2 := hk2.cell 0 rfl
        have jl2 := hk2.lt
        clear hk2
        go_enter Try.func27, Try.ntmps27
        go_wp2_with fail
        go_end0
        exact ⟨rfl, (Below.refl _ _).alloc (Nat.le_refl _) _⟩
    · have j := hk.cell 0 rfl
      have jl := hk.lt
      clear hk
      rcases hN with rfl | ⟨z, rfl⟩ | ⟨k2, a2, rfl, hk2⟩
      · go_enter Try.func27, Try.ntmps27
        go_wp2_with fail
        go_end0
        exact ⟨rfl, (Below.refl _ _).alloc (Nat.le_refl _) _⟩
      · go_enter Try.func27, Try.ntmps27
        go_wp2_with fail
        go_end0
        exact ⟨rfl, (Below.refl _ _).alloc (Nat.le_refl _) _⟩
      · have j2 := hk2.cell 0 rfl
        have jl2 := hk2.lt
        clear hk2
        go_enter Try.func27, Try.ntmps27
        go_wp2_with fail
        go_end0
        exact ⟨rfl, (Below.refl _ _).alloc (Nat.le_refl _) _⟩
  · have r0 := hB.cell
    have lb := hB.lt
    have lb1 : b < w.heap.size := World.block_lt_of_cell? w _ h0
    have hn0 : decide ((0 : Int) < (n : Int)) = true := by simp; omega
    clear hB
    rcases hY with ⟨y, rfl⟩ | ⟨k, a, rfl, hk⟩
    · rcases hN with rfl | ⟨z, rfl⟩ | ⟨k2, a2, rfl, hk2⟩
      · go_enter Try.func27, Try.ntmps27
        go_wp2_with fail
        go_end0
        exact ⟨rfl, (Below.refl _ _).alloc (Nat.le_refl _) _⟩
      · go_enter Try.func27, Try.ntmps27
        go_wp2_with fail
        go_end0
        exact ⟨rfl, (Below.refl _ _).alloc (Nat.le_refl _) _⟩
      · have j2 := hk2.cell 0 rfl
        have jl2 := hk2.lt
        clear hk2
        go_enter Try.func27, Try.ntmps27
        go_wp2_with fail
        go_end0
        exact ⟨rfl, (Below.refl _ _).alloc (Nat.le_refl _) _⟩
    · have j := hk.cell 0 rfl
      have jl := hk.lt
      clear hk
      rcases hN with rfl | ⟨z, rfl⟩ | ⟨k2, a2, rfl, hk2⟩
      · go_enter Try.func27, Try.ntmps27
        go_wp2_with fail
        go_end0
        exact ⟨rfl, (Below.refl _ _).alloc (Nat.le_refl _) _⟩
      · go_enter Try.func27, Try.ntmps27
        go_wp2_with fail
        go_end0
        exact ⟨rfl, (Below.refl _ _).alloc (Nat.le_refl _) _⟩
      · have j2 := hk2.cell 0 rfl
        have jl2 := hk2.lt
        clear hk2
        go_enter Try.func27, Try.ntmps27
        go_wp2_with fail
        go_end0
        exact ⟨rfl, (Below.refl _ _).alloc (Nat.le_refl _) _⟩

end Go.Proofs.Ytolpgogmbebmcaa
