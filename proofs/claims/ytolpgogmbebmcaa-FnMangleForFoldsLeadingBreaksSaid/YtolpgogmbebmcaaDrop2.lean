/-
  The contract of dropFirstStatement where a replacement is given, or where there is nothing to drop; conditions: those that each case names.
-/
import Derived.Test.YtolpgogmbebmcaaDrop
import Derived.RegionTactic
import Derived.WideLaws
namespace Go.Proofs.Ytolpgogmbebmcaa
open Go.RowKit

theorem Blk.drew {w : World} {g : Nat} {v : Value} {c : Int} (h : Blk w g v c) : Blk w.drew g v c := h
theorem Row.drew {w : World} {g n : Nat} {t : TypeId} {f : Nat → Value} (h : Row w g t n f) : Row w.drew g t n f := h
theorem only_drew {a w : World} {row : Option Nat} (h : a.grownBy w row) : a.grownBy w.drew row := ⟨h.os, h.tape, h.output, h.size, h.block⟩
theorem ni28 (T : TypeId) (v : Value) (w : World) : (binOp .neq 28 (.iface T v) .nilIface).run Try.prog w = .ok (.bool true) w := by
  exact run_neq_held_nil w 28 T v (by kernel_rfl)

set_option maxHeartbeats 1000000 in
set_option maxRecDepth 100000 in
/-- A replacement: it takes the first statement's place. -/
theorem drop_repl (g b i m n cap T : Nat) (c bl rl : Int) (p : Option Addr) (D : Nat → Value) (L : Nat → Int) (w : World) (hn : 1 ≤ n) (him : i < m) (hB : Blk w g (.slice (some ⟨b, i * 2, none⟩) n cap) c) (hgb : g ≠ b)
    (hR : Row w b 32 (m * 2) (sc D L)) :
    Calls Try.prog 26 #[.agg #[.iface 26 (.pointer (some ⟨g, 0, none⟩)), .int .i32 bl], .agg #[.iface T (.pointer p), .int .i32 rl]] w fun e w' => e = .returned (.agg #[.iface 26 (.pointer (some ⟨g, 0, none⟩)), .int .i32 bl]) ∧
      Blk w' g (.slice (some ⟨b, i * 2, none⟩) n cap) c ∧ Row w' b 32 (m * 2) (sc (fun j => if j = i then .iface T (.pointer p) else D j) (fun j => if j = i then rl else L j)) ∧ w.grownBy w' (some b) := by
  have t1 := ta26
  have t2 := ni28
  have hg := hB.lt
  have hb := hR.lt
  have hc3 := cell3 hB.cell hg
  have c03 := cell3 (hR.cell (i := i * 2) (by omega)) hb
  have c13 := cell3 (hR.cell (i := i * 2 + 1) (by omega)) hb
  have f03 := frozen3 (hR.frozen (i * 2)) hb
  have f13 := frozen3 (hR.frozen (i * 2 + 1)) hb
  have hn0 : decide ((0 : Int) < (n : Int)) = true := by simp; omega
  have HB := Lib.hid hB
  have HR := Lib.hid hR
  clear hB hR
  go_enter Try.func26, Try.ntmps26
  go_wp2
  go_region
  go_wp2
  refine bodyPost_ret (v := .agg #[.iface 26 (.pointer (some ⟨g, 0, none⟩)), .int .i32 bl]) (by simp [results, Try.results26, go_sem]) rfl ⟨rfl, ?_, ?_, ?_⟩
  · exact Blk.drew (((((((HB.out.alloc _).alloc _).alloc _).far hgb _).far hgb _).far (by show g ≠ w.heap.size + 1 + 1; omega) _).far (by show g ≠ w.heap.size + 1 + 1; omega) _)
  · exact Row.drew (((row_stmt (((HR.out.alloc _).alloc _).alloc _) _ _).far (by show b ≠ w.heap.size + 1 + 1; omega) _).far (by show b ≠ w.heap.size + 1 + 1; omega) _)
  · exact only_drew (only_set (only_set (only_set (only_set (only_alloc (only_alloc (only_alloc (World.grownBy.refl w (some b)) _) _) _) (.inl rfl) _) (.inl rfl) _) (.inr (by show w.heap.size ≤ w.heap.size + 1 + 1; omega)) _) (.inr (by show w.heap.size ≤ w.heap.size + 1 + 1; omega)) _)

end Go.Proofs.Ytolpgogmbebmcaa
