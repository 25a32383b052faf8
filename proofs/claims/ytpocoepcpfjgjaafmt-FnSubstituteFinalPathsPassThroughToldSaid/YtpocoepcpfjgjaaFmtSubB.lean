/-
  The walk of substituteFinalPaths where there are no pieces, and of its shim; conditions: the size that each names.
-/
import Derived.Test.YtpocoepcpfjgjaaFmtDone
import Derived.Deep.RegionWith
namespace Go.Proofs.YtpocoepcpfjgjaaFmt
open Go.RowKit

set_option maxHeartbeats 4000000 in
set_option maxRecDepth 100000 in
theorem sub_any (c fv : Value) (G cap : Nat) (n b : Int) (w : World) : Calls Tryf.prog 14 #[c, .agg #[.slice none 0 0, .slice (some ⟨G, 0, none⟩) 1 cap, .slice none 0 0, .int .u32 n, .int .u8 b], fv] w fun e w' => (∃ Z, e = .returned (.tuple #[.agg #[.slice (some ⟨G, 0, none⟩) 1 cap, .slice none 0 0, .int .u32 n, .int .u8 b], .slice (some ⟨Z, 0, none⟩) 1 1])) ∧ Below w.heap.size w w' := by
  have q := Lib.run_eql_slice_nil (P := Tryf.prog)
  go_enter Tryf.func14, Tryf.ntmps14
  go_wp2_with fail
  refine bodyPost_ret (v := .tuple #[.agg #[.slice (some ⟨G, 0, none⟩) 1 cap, .slice none 0 0, .int .u32 n, .int .u8 b], .slice (some ⟨w.heap.size + 1 + 1, 0, none⟩) 1 1]) (by simp [results, Tryf.results14, go_sem]) rfl ⟨⟨_, rfl⟩, ?_⟩
  repeat (first | exact Below.refl _ _ | (refine Below.alloc ?_ (by first | exact Nat.le_refl _ | (simp <;> omega)) _) | (refine Below.setCell ?_ (by first | exact Nat.le_refl _ | (simp <;> omega)) _))

theorem done_at (g : Nat) (s : ByteArray) (w : World) {w0 : World} (hJ : Jd g s w0) (hs : s.size ≤ 1048576) (hw : w.heap = w0.heap := by rfl) : Calls Tryf.prog 17 #[.pointer (some ⟨g, 0, none⟩)] w (DEnd s w) := by
  have hcell : ∀ p, w0.cell? p = w.cell? p := fun p => by unfold World.cell?; rw [hw]
  obtain ⟨G, cap, b, c0, c1, c2, c3, d0, d1⟩ := hJ
  rw [hcell] at c0 c1 c2 c3 d0 d1
  exact done_any g s w ⟨G, cap, b, c0, c1, c2, c3, d0, d1⟩ hs

def CEnd (s : ByteArray) (w : World) (e : Ending) (w' : World) : Prop := ∃ Y, e = .returned (.tuple #[.slice (some ⟨Y, 0, none⟩) s.size s.size, .int .i64 1, .int .i64 0]) ∧ Holds Y s w' ∧ Below w.heap.size w w'

set_option maxHeartbeats 4000000 in
set_option maxRecDepth 100000 in
theorem count_any (c : Option Addr) (dir s : ByteArray) (G cap : Nat) (b : Int) (w : World) (hs : s.size ≤ 1048576) (d0 : w.cell? ⟨G, 0, none⟩ = some (.string s)) (d1 : w.cell? ⟨G, 1, none⟩ = some (.int .u32 0)) :
    Calls Tryf.prog 8 #[.pointer c, .agg #[.slice none 0 0, .slice (some ⟨G, 0, none⟩) 1 cap, .slice none 0 0, .int .u32 s.size, .int .u8 b], .string dir] w (CEnd s w) := by
  have hGl := World.block_lt_of_cell? w _ d0
  go_enter Tryf.func8, Tryf.ntmps8
  go_wp2_with fail
  refine (sub_any _ _ G cap s.size b _).mono ?_
  rintro e w2 ⟨⟨Z, rfl⟩, hb2⟩
  have hs2 := hb2.size
  simp only [World.size_alloc] at hs2
  have k0 : w2.cell? ⟨w.heap.size + 1 + 1 + 1, 0, none⟩ = some (.int .i64 0) := by rw [hb2.cell (p := ⟨w.heap.size + 1 + 1 + 1, 0, none⟩) (by simp)]; go_simp
  have g0 : w2.cell? ⟨G, 0, none⟩ = some (.string s) := by
    rw [hb2.cell (p := ⟨G, 0, none⟩) (by simp; omega), World.cell?_alloc_lt _ _ _ (by simp; omega), World.cell?_alloc_lt _ _ _ (by simp; omega), World.cell?_alloc_lt _ _ _ (by simp; omega), World.cell?_alloc_lt _ _ _ (by simp; omega)]
    exact d0
  have g1 : w2.cell? ⟨G, 1, none⟩ = some (.int .u32 0) := by
    rw [hb2.cell (p := ⟨G, 1, none⟩) (by simp; omega), World.cell?_alloc_lt _ _ _ (by simp; omega), World.cell?_alloc_lt _ _ _ (by simp; omega), World.cell?_alloc_lt _ _ _ (by simp; omega), World.cell?_alloc_lt _ _ _ (by simp; omega)]
    exact d1
  have hbw : Below w.heap.size w w2 := (((((Below.refl w.heap.size w).alloc (Nat.le_refl _) _).alloc (by simp) _).alloc (by simp; omega) _).alloc (by simp; omega) _).trans (hb2.mono (by simp; omega))
  have HB := Lib.hid hbw
  have hG2 : G < w2.heap.size := by omega
  have hc3 : w.heap.size + 1 + 1 + 1 < w2.heap.size := by omega
  clear hb2 hbw d0 d1 hs2
  have hr := heap_alloc_new w2 (Obj.cells #[.slice (some ⟨G, 0, none⟩) 1 cap, .slice none 0 0, .int .u32 s.size, .int .u8 b] 30)
  have hJ : Jd w2.heap.size s (w2.alloc (Obj.cells #[.slice (some ⟨G, 0, none⟩) 1 cap, .slice none 0 0, .int .u32 s.size, .int .u8 b] 30)) :=
    ⟨G, cap, b, cell_of_row _ _ 0 _ _ _ hr, cell_of_row _ _ 1 _ _ _ hr, cell_of_row _ _ 2 _ _ _ hr, cell_of_row _ _ 3 _ _ _ hr, (World.cell?_alloc_lt _ _ _ hG2).trans g0, (World.cell?_alloc_lt _ _ _ hG2).trans g1⟩
  have k3 : (w2.alloc (Obj.cells #[.slice (some ⟨G, 0, none⟩) 1 cap, .slice none 0 0, .int .u32 s.size, .int .u8 b] 30)).cell? ⟨w.heap.size + 1 + 1 + 1, 0, none⟩ = some (.int .i64 0) := (World.cell?_alloc_lt _ _ _ hc3).trans k0
  have hbw3 : Below w.heap.size w (w2.alloc (Obj.cells #[.slice (some ⟨G, 0, none⟩) 1 cap, .slice none 0 0, .int .u32 s.size, .int .u8 b] 30)) := HB.out.alloc HB.out.size _
  go_wp2_with fail
  obtain ⟨W3, hW⟩ : ∃ W3, w2.alloc (Obj.cells #[Value.slice (some ⟨G, 0, none⟩) 1 cap, Value.slice none 0 0, Value.int IntKind.u32 s.size, Value.int IntKind.u8 b] 30) = W3 := ⟨_, rfl⟩
  rw [hW] at hJ k3 hbw3 ⊢
  have HJ := Lib.hid (And.intro hJ hbw3)
  clear hr hJ hbw3 hW k0 g0 g1 hG2 hc3
  go_region_with (refine (done_at w2.heap.size s _ HJ.out.1 hs).mono ?_; rintro e w4 ⟨Y, rfl, hh, hb4⟩; have k4 : w4.cell? ⟨w.heap.size + 1 + 1 + 1, 0, none⟩ = some (.int .i64 0) := cellUp hb4 k3)
  all_goals (go_wp2_with fail; exact bodyPost_ret (v := .tuple #[.slice (some ⟨Y, 0, none⟩) s.size s.size, .int .i64 1, .int .i64 0]) (by simp [results, Tryf.results8, go_sem]) rfl ⟨Y, rfl, hh, HJ.out.2.drew.trans (Below.mono hb4 HJ.out.2.size)⟩)

end Go.Proofs.YtpocoepcpfjgjaaFmt
