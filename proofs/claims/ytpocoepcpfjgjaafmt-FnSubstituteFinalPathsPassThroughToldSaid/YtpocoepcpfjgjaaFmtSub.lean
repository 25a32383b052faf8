/-
  The contracts of the shims of the law on substitution without pieces; conditions: the size that each names.
-/
import Derived.Test.YtpocoepcpfjgjaaFmtAdd
namespace Go.Proofs.YtpocoepcpfjgjaaFmt
open Go.RowKit

theorem add_any (g : Nat) (s : ByteArray) (w : World) (hg : w.heap[g]? = some (.cells #[.slice none 0 0, .slice none 0 0, .int .u32 0, .int .u8 0] 30 (0, 0))) (hs : s.size ≤ 1048576) :
    Calls Tryf.prog 13 #[.pointer (some ⟨g, 0, none⟩), .string s] w fun e w' => e = .returned (.tuple #[]) ∧ Jn g s w' ∧ Below g w w' := by
  rcases Nat.eq_zero_or_pos s.size with h0 | h0
  · exact add_none g s w hg h0
  · exact add_some g s w hg (s.size - 1) (by omega) hs

def OutEnd (s : ByteArray) (w : World) (e : Ending) (w' : World) : Prop := (∃ (G cap : Nat) (b : Int), e = .returned (.agg #[.slice none 0 0, .slice (some ⟨G, 0, none⟩) 1 cap, .slice none 0 0, .int .u32 s.size, .int .u8 b]) ∧ w'.cell? ⟨G, 0, none⟩ = some (.string s) ∧ w'.cell? ⟨G, 1, none⟩ = some (.int .u32 0)) ∧ Below w.heap.size w w'

set_option maxHeartbeats 4000000 in
set_option maxRecDepth 100000 in
theorem out_any (s : ByteArray) (w : World) (hs : s.size ≤ 1048576) : Calls Tryf.prog 7 #[.string s] w (OutEnd s w) := by
  have hadd := fun g wx hg => add_any g s wx hg hs
  have H := Lib.hid hadd
  clear hadd hs
  go_enter Tryf.func7, Tryf.ntmps7
  go_wp2_with fail
  refine (H.out _ _ (by first | exact heap_alloc_new _ _ | (have := heap_alloc_new (w.alloc (Obj.cells #[Value.slice none 0 0, Value.slice none 0 0, Value.slice none 0 0, Value.int IntKind.u32 0, Value.int IntKind.u8 0] 32)) (Obj.cells #[Value.slice none 0 0, Value.slice none 0 0, Value.int IntKind.u32 0, Value.int IntKind.u8 0] 30); rw [World.size_alloc] at this; exact this))).mono ?_
  rintro e w2 ⟨rfl, ⟨G, cap, b, hgG, c0, c1, c2, c3, d0, d1⟩, hb⟩
  have f0 : w2.frozen? ⟨w.heap.size, 0, none⟩ = false := by rw [hb.frozen (p := ⟨w.heap.size, 0, none⟩) (by simp)]; go_simp
  have f1 : w2.frozen? ⟨w.heap.size, 1, none⟩ = false := by rw [hb.frozen (p := ⟨w.heap.size, 1, none⟩) (by simp)]; go_simp
  have f2 : w2.frozen? ⟨w.heap.size, 2, none⟩ = false := by rw [hb.frozen (p := ⟨w.heap.size, 2, none⟩) (by simp)]; go_simp
  have f3 : w2.frozen? ⟨w.heap.size, 3, none⟩ = false := by rw [hb.frozen (p := ⟨w.heap.size, 3, none⟩) (by simp)]; go_simp
  have f4 : w2.frozen? ⟨w.heap.size, 4, none⟩ = false := by rw [hb.frozen (p := ⟨w.heap.size, 4, none⟩) (by simp)]; go_simp
  have b0 : w2.cell? ⟨w.heap.size, 0, none⟩ = some (.slice none 0 0) := by rw [hb.cell (p := ⟨w.heap.size, 0, none⟩) (by simp)]; go_simp
  have b1 : w2.cell? ⟨w.heap.size, 1, none⟩ = some (.slice none 0 0) := by rw [hb.cell (p := ⟨w.heap.size, 1, none⟩) (by simp)]; go_simp
  have b2 : w2.cell? ⟨w.heap.size, 2, none⟩ = some (.slice none 0 0) := by rw [hb.cell (p := ⟨w.heap.size, 2, none⟩) (by simp)]; go_simp
  have b3 : w2.cell? ⟨w.heap.size, 3, none⟩ = some (.int .u32 0) := by rw [hb.cell (p := ⟨w.heap.size, 3, none⟩) (by simp)]; go_simp
  have b4 : w2.cell? ⟨w.heap.size, 4, none⟩ = some (.int .u8 0) := by rw [hb.cell (p := ⟨w.heap.size, 4, none⟩) (by simp)]; go_simp
  have hbw : Below w.heap.size w w2 := (((Below.refl w.heap.size w).alloc (Nat.le_refl _) _).alloc (by simp) _).trans (hb.mono (by simp))
  have HB := Lib.hid hbw
  clear hb hbw
  go_wp2_with fail
  have hgw : w.heap.size < G := by omega
  have x0 : (⟨G, 0, none⟩ : Addr).block ≠ w.heap.size := by show G ≠ _; omega
  refine bodyPost_ret (v := .agg #[.slice none 0 0, .slice (some ⟨G, 0, none⟩) 1 cap, .slice none 0 0, .int .u32 s.size, .int .u8 b]) (by simp [results, Tryf.results7, go_sem, b0, b1, b2, b3, b4]) rfl ⟨⟨G, cap, b, rfl, ?_, ?_⟩, ?_⟩
  · have hne : ¬ G = w.heap.size := by omega
    go_simp
  · have hne : ¬ G = w.heap.size := by omega
    go_simp
  · exact (((((HB.out.setCell (p := ⟨w.heap.size, 0, none⟩) (Nat.le_refl _) _).setCell (p := ⟨w.heap.size, 1, none⟩) (Nat.le_refl _) _).setCell (p := ⟨w.heap.size, 2, none⟩) (Nat.le_refl _) _).setCell (p := ⟨w.heap.size, 3, none⟩) (Nat.le_refl _) _).setCell (p := ⟨w.heap.size, 4, none⟩) (Nat.le_refl _) _)

end Go.Proofs.YtpocoepcpfjgjaaFmt
