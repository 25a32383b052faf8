/-
  The contract of Joiner.AddString on a joiner that holds nothing; conditions: the size that it names.
-/
import Derived.Test.YtpocoepcpfjgjaaFmtCtx
namespace Go.Proofs.YtpocoepcpfjgjaaFmt
open Go.RowKit

/-- A joiner at g that holds one text. -/
def Jn (g : Nat) (s : ByteArray) (w : World) : Prop := ∃ (G cap : Nat) (b : Int), g < G ∧ w.cell? ⟨g, 0, none⟩ = some (.slice (some ⟨G, 0, none⟩) 1 cap) ∧ w.cell? ⟨g, 1, none⟩ = some (.slice none 0 0) ∧ w.cell? ⟨g, 2, none⟩ = some (.int .u32 s.size) ∧ w.cell? ⟨g, 3, none⟩ = some (.int .u8 b) ∧
  w.cell? ⟨G, 0, none⟩ = some (.string s) ∧ w.cell? ⟨G, 1, none⟩ = some (.int .u32 0)

set_option maxHeartbeats 4000000 in
set_option maxRecDepth 100000 in
theorem add_none (g : Nat) (s : ByteArray) (w : World) (hg : w.heap[g]? = some (.cells #[.slice none 0 0, .slice none 0 0, .int .u32 0, .int .u8 0] 30 (0, 0))) (h0 : s.size = 0) :
    Calls Tryf.prog 13 #[.pointer (some ⟨g, 0, none⟩), .string s] w fun e w' => e = .returned (.tuple #[]) ∧ Jn g s w' ∧ Below g w w' := by
  have c0 : w.cell? ⟨g, 0, none⟩ = some (.slice none 0 0) := cell_of_row w g 0 _ _ _ hg
  have c1 : w.cell? ⟨g, 1, none⟩ = some (.slice none 0 0) := cell_of_row w g 1 _ _ _ hg
  have c2 : w.cell? ⟨g, 2, none⟩ = some (.int .u32 0) := cell_of_row w g 2 _ _ _ hg
  have c3 : w.cell? ⟨g, 3, none⟩ = some (.int .u8 0) := cell_of_row w g 3 _ _ _ hg
  have hlt : g < w.heap.size := (Array.getElem?_eq_some_iff.1 hg).1
  have f0 : w.frozen? ⟨g, 0, none⟩ = false := by simp [World.frozen?, hg]
  have f2 : w.frozen? ⟨g, 2, none⟩ = false := by simp [World.frozen?, hg]
  have hs0 : (s.size : Int) = 0 := by omega
  have hcap : ¬ 281474976710656 < Builtin.nextslicecap 1 0 * Tryf.t148.bytes := by decide
  clear hg
  go_enter Tryf.func13, Tryf.ntmps13
  go_wp2_with fail
  go_region
  obtain ⟨N, hN⟩ : ∃ N, w.tape (w.drawn + 1) (Question.appendCap 1 0 148) % 9223372036854775807 = N := ⟨_, rfl⟩
  rw [hN]
  clear hN hcap
  go_wp2_with fail
  obtain ⟨cs, hcs⟩ : ∃ cs, #[Value.string s, Value.int IntKind.u32 0] ++ Builtin.zeroCells #[Value.string { data := #[] }, Value.int IntKind.u32 0] N = cs := ⟨_, rfl⟩
  have k0 : cs[0]? = some (.string s) := by rw [← hcs, Array.getElem?_append_left (by simp)]; rfl
  have k1 : cs[1]? = some (.int .u32 0) := by rw [← hcs, Array.getElem?_append_left (by simp)]; rfl
  rw [hcs]
  clear hcs
  go_end0
  refine ⟨rfl, ⟨w.heap.size + 1, 1 + N, 0, by omega, ?_, ?_, ?_, ?_, ?_, ?_⟩, ?_⟩
  · go_simp
  · go_simp
  · go_simp
  · go_simp
  · go_simp
  · go_simp
  · exact (((((Below.refl _ _).setCell (p := ⟨g, 0, none⟩) (Nat.le_refl _) _).setCell (p := ⟨g, 2, none⟩) (Nat.le_refl _) _).alloc (by simp; omega) _).alloc (by simp; omega) _).drew.drew

set_option maxHeartbeats 4000000 in
set_option maxRecDepth 100000 in
theorem add_some (g : Nat) (s : ByteArray) (w : World) (hg : w.heap[g]? = some (.cells #[.slice none 0 0, .slice none 0 0, .int .u32 0, .int .u8 0] 30 (0, 0))) (n : Nat) (h0 : s.size = n + 1) (hs : s.size ≤ 1048576) :
    Calls Tryf.prog 13 #[.pointer (some ⟨g, 0, none⟩), .string s] w fun e w' => e = .returned (.tuple #[]) ∧ Jn g s w' ∧ Below g w w' := by
  have c0 : w.cell? ⟨g, 0, none⟩ = some (.slice none 0 0) := cell_of_row w g 0 _ _ _ hg
  have c1 : w.cell? ⟨g, 1, none⟩ = some (.slice none 0 0) := cell_of_row w g 1 _ _ _ hg
  have c2 : w.cell? ⟨g, 2, none⟩ = some (.int .u32 0) := cell_of_row w g 2 _ _ _ hg
  have c3 : w.cell? ⟨g, 3, none⟩ = some (.int .u8 0) := cell_of_row w g 3 _ _ _ hg
  have hlt : g < w.heap.size := (Array.getElem?_eq_some_iff.1 hg).1
  have f0 : w.frozen? ⟨g, 0, none⟩ = false := by simp [World.frozen?, hg]
  have f2 : w.frozen? ⟨g, 2, none⟩ = false := by simp [World.frozen?, hg]
  have f3 : w.frozen? ⟨g, 3, none⟩ = false := by simp [World.frozen?, hg]
  have e1 : (s.size : Int) - 1 = (n : Int) := by omega
  have e2 : (n : Int) < (s.size : Int) := by omega
  have e3 : n < s.size := by omega
  have e4 : (0 : Int) < (s.size : Int) := by omega
  have HN := Lib.hid h0
  have hcap : ¬ 281474976710656 < Builtin.nextslicecap 1 0 * Tryf.t148.bytes := by decide
  clear hg h0
  go_enter Tryf.func13, Tryf.ntmps13
  go_wp2_with fail
  go_region
  obtain ⟨N, hN⟩ : ∃ N, w.tape (w.drawn + 1) (Question.appendCap 1 0 148) % 9223372036854775807 = N := ⟨_, rfl⟩
  rw [hN]
  clear hN hcap
  go_wp2_with fail
  obtain ⟨cs, hcs⟩ : ∃ cs, #[Value.string s, Value.int IntKind.u32 0] ++ Builtin.zeroCells #[Value.string { data := #[] }, Value.int IntKind.u32 0] N = cs := ⟨_, rfl⟩
  have k0 : cs[0]? = some (.string s) := by rw [← hcs, Array.getElem?_append_left (by simp)]; rfl
  have k1 : cs[1]? = some (.int .u32 0) := by rw [← hcs, Array.getElem?_append_left (by simp)]; rfl
  rw [hcs]
  clear hcs
  go_end0
  refine ⟨rfl, ⟨w.heap.size + 1, 1 + N, (s[n]'e3).toNat, by omega, ?_, ?_, ?_, ?_, ?_, ?_⟩, ?_⟩
  · go_simp
  · go_simp
  · go_simp
  · go_simp
  · go_simp
  · go_simp
  · exact ((((((Below.refl _ _).setCell (p := ⟨g, 3, none⟩) (Nat.le_refl _) _).setCell (p := ⟨g, 0, none⟩) (Nat.le_refl _) _).setCell (p := ⟨g, 2, none⟩) (Nat.le_refl _) _).alloc (by simp; omega) _).alloc (by simp; omega) _).drew.drew

end Go.Proofs.YtpocoepcpfjgjaaFmt
