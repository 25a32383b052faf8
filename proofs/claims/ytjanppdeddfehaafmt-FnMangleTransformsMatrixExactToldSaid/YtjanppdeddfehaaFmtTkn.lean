/-
  Tokens as the walk meets them; the contracts of the name, of being zero or one and of building the function; conditions: those that each names.
-/
import Derived.Test.YtjanppdeddfehaaFmtStr
import Derived.Test.YtjanppdeddfehaaFmtRows
import Derived.WalkKit
import Derived.WalkSpells
import Derived.BigRegion
import Derived.Laws.IdiomCopy
import Derived.Deep.MidRow
namespace Go.Proofs.YtjanppdeddfehaaFmt
open Go.RowKit

structure Tk where
  t : ByteArray
  k : Int
  ws : Int
/-- A token that stands alone, at its place. -/
structure TkAt (w : World) (g o : Nat) (x : Tk) : Prop where
  c0 : w.cell? ⟨g, o, none⟩ = some (.pointer none)
  c1 : w.cell? ⟨g, o + 1, none⟩ = some (.string x.t)
  c2 : w.cell? ⟨g, o + 2, none⟩ = some (.int .i32 0)
  c3 : w.cell? ⟨g, o + 3, none⟩ = some (.int .u32 0)
  c4 : w.cell? ⟨g, o + 4, none⟩ = some (.int .u16 0)
  c5 : w.cell? ⟨g, o + 5, none⟩ = some (.int .u8 x.k)
  c6 : w.cell? ⟨g, o + 6, none⟩ = some (.int .u8 x.ws)
def tkV (x : Tk) : Value := .agg #[.pointer none, .string x.t, .int .i32 0, .int .u32 0, .int .u16 0, .int .u8 x.k, .int .u8 x.ws]
def num (s : ByteArray) (ws : Int) : Tk := ⟨s, 30, ws⟩
def comS : ByteArray := ⟨#[44]⟩
def com (ws : Int) : Tk := ⟨comS, 10, ws⟩

def IsName (nm : ByteArray) : Prop := nm = ⟨#[77, 65, 84, 82, 73, 88]⟩ ∨ nm = ⟨#[77, 97, 116, 114, 105, 120]⟩ ∨ nm = ⟨#[109, 97, 116, 114, 105, 120]⟩
def NameRet (w : World) (e : Ending) (w' : World) : Prop := ∃ nm, e = .returned (.string nm) ∧ IsName nm ∧ w = w'
set_option maxHeartbeats 1000000 in
theorem name_any (c : Int) (h0 : 0 ≤ c) (h1 : c ≤ 255) (w : World) : Calls Tryf.prog 5 #[.int .u8 c] w (NameRet w) := by
  go_enter Tryf.func5, Tryf.ntmps5
  go_wp2_with fail
  · go_ret
    exact ⟨_, rfl, .inl rfl, rfl⟩
  · go_ret
    exact ⟨_, rfl, .inr (.inl rfl), rfl⟩
  · go_ret
    exact ⟨_, rfl, .inr (.inr rfl), rfl⟩

set_option maxHeartbeats 2000000 in
set_option maxRecDepth 100000 in
theorem zero_any (s : ByteArray) (ws : Int) (b : Bool) (h : (s.toList == [48]) = b) (w : World) : Calls Tryf.prog 13 #[tkV (num s ws)] w fun e w' => e = .returned (.bool b) ∧ Below w.heap.size w w' := by
  unfold tkV num
  go_enter Tryf.func13, Tryf.ntmps13
  go_wp2_with fail
  go_ret
  exact ⟨rfl, (Below.refl _ _).alloc (Nat.le_refl _) _⟩
set_option maxHeartbeats 2000000 in
set_option maxRecDepth 100000 in
theorem one_any (s : ByteArray) (ws : Int) (b : Bool) (h : (s.toList == [49]) = b) (w : World) : Calls Tryf.prog 15 #[tkV (num s ws)] w fun e w' => e = .returned (.bool b) ∧ Below w.heap.size w w' := by
  unfold tkV num
  go_enter Tryf.func15, Tryf.ntmps15
  go_wp2_with fail
  go_ret
  exact ⟨rfl, (Below.refl _ _).alloc (Nat.le_refl _) _⟩
set_option maxHeartbeats 2000000 in
set_option maxRecDepth 100000 in
theorem eq_any (s t : ByteArray) (ws wt : Int) (b : Bool) (h : (s.toList == t.toList) = b) (w : World) : Calls Tryf.prog 14 #[tkV (num s ws), tkV (num t wt)] w fun e w' => e = .returned (.bool b) ∧ Below w.heap.size w w' := by
  unfold tkV num
  cases b
  · go_enter Tryf.func14, Tryf.ntmps14
    go_wp2_with fail
    go_ret
    exact ⟨rfl, ((Below.refl _ _).alloc (Nat.le_refl _) _).alloc (by simp) _⟩
  · go_enter Tryf.func14, Tryf.ntmps14
    go_wp2_with fail
    go_ret
    exact ⟨rfl, ((Below.refl _ _).alloc (Nat.le_refl _) _).alloc (by simp) _⟩
theorem info37 : (Tryf.prog.info? 37).map (fun i => (i.zero, i.size, i.bytes)) = some (some (.agg #[.pointer none, .string ⟨#[]⟩, .int .i32 0, .int .u32 0, .int .u16 0, .int .u8 0, .int .u8 0]), 7, 40) := by kernel_rfl
theorem make11 : ∃ Z : Array Value, (∀ w : World, (Instr.makeSlice 26 (.int .i64 11) (.int .i64 11)).run Tryf.prog w = .ok (.slice (some ⟨w.heap.size, 0, none⟩) 11 11) (w.alloc (.cells Z 37))) ∧ Z.size = 77 := by
  obtain ⟨i0, hi, hz0, hz1, hz2⟩ := info_parts info37
  refine ⟨_, fun w => ?_, size_madeCells (Value.cells (.agg #[.pointer none, .string ⟨#[]⟩, .int .i32 0, .int .u32 0, .int .u16 0, .int .u8 0, .int .u8 0])) 77⟩
  have h := run_make (P := Tryf.prog) w 26 37 i0 _ Tryf.underlying26 hi hz0 .i64 .i64 11 11 (by omega) (by omega) (by rw [hz2]; omega) (by omega)
  rw [hz1] at h
  exact h
end Go.Proofs.YtjanppdeddfehaaFmt
