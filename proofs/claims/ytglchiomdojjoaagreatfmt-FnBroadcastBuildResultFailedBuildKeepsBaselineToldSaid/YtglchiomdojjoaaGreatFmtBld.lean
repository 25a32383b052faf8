/-
  The contracts of strings.Builder's writers over this translation (its copyCheck bears a refused statement on a road that is never taken, so the shelf's laying of these does not fit); conditions: those that each names.
-/
import Derived.Test.YtglchiomdojjoaaGreatFmtProg
import Derived.KernelRfl
import Derived.Lib.Builder
import Derived.Lib.AppendStr
import Derived.Lib.UnsafeStr
import Derived.WalkKit
import Derived.Laws.Externs
import Derived.Lib.Hide
namespace Go.Proofs.YtglchiomdojjoaaGreatFmt
open Go.RowKit

theorem bld_byte : (Tryz.prog.info? 5).map (fun i => (i.zero, i.size, i.bytes)) = some (some (.int .u8 0), 1, 1) := by kernel_rfl
theorem bld_size : (Tryz.prog.info? 88).map (·.size) = some 2 := by kernel_rfl
theorem bld_lies : liesAt Tryz.prog Tryz.prog.depth 88 (2 / Tryz.prog.cellsOf 88) 0 88 1 = true := by kernel_rfl
theorem bld_same (args : Array Value) (w : World) : (callFunc 63 args).run Tryz.prog w = ((Extern.AbiNoEscape.same args).run Tryz.prog w).andThen fun v w' => .ok (.value v) w' :=
  run_callFunc_extern Tryz.func63 (by kernel_rfl) (by kernel_rfl) (by kernel_rfl) (by kernel_rfl) args w

/-- A builder of this translation: block b, from B on, holding the bytes l. -/
def Bld (B b : Nat) (l : List UInt8) (w : World) : Prop := Lib.IsBuilder 88 5 B b (Lib.byteCells l) w

set_option maxHeartbeats 1000000 in
set_option maxRecDepth 100000 in
theorem check_old (b : Nat) (w : World) (h0 : w.cell? ⟨b, 0, none⟩ = some (.pointer (some ⟨b, 0, none⟩))) :
    Calls Tryz.prog 47 #[.pointer (some ⟨b, 0, none⟩)] w fun e w' => e = .returned (.tuple #[]) ∧ w = w' := by
  obtain ⟨j, hj, _⟩ := Option.map_eq_some_iff.1 bld_size
  have same := Lib.run_neq_ptr_same (P := Tryz.prog) w ⟨b, 0, none⟩ Tryz.underlying86 hj
  go_enter Tryz.func47, Tryz.ntmps47
  go_wp2
  go_end0
  exact ⟨rfl, rfl⟩

set_option maxHeartbeats 1000000 in
set_option maxRecDepth 100000 in
theorem check_new (b : Nat) (w : World) (h0 : w.cell? ⟨b, 0, none⟩ = some (.pointer none)) (hsh : w.shape? b = some (88, 2)) (hfz : w.frozen? ⟨b, 0, none⟩ = false) :
    Calls Tryz.prog 47 #[.pointer (some ⟨b, 0, none⟩)] w fun e w' => e = .returned (.tuple #[]) ∧ w' = w.setCell ⟨b, 0, none⟩ (.pointer (some ⟨b, 0, none⟩)) := by
  obtain ⟨j, hj, hjs⟩ := Option.map_eq_some_iff.1 bld_size
  have out := Lib.run_to_unsafe (P := Tryz.prog) w ⟨b, 0, none⟩ Tryz.underlying86 Tryz.underlying108 hj (by rw [hjs]; decide) hsh (Nat.zero_lt_succ 1)
  have back := Lib.run_from_unsafe (P := Tryz.prog) w ⟨b, 0, none⟩ Tryz.underlying108 Tryz.underlying86 hj hsh bld_lies
  have mid := bld_same
  have keep := fun (x : Value) (wx : World) => Lib.run_noEscape (P := Tryz.prog) wx x
  go_enter Tryz.func47, Tryz.ntmps47
  go_wp2
  go_end0
  exact ⟨rfl, rfl⟩

def Used (B b : Nat) (bs : List Value) (w : World) (e : Ending) (w' : World) : Prop := e = .returned (.tuple #[]) ∧ Lib.BuilderAt 88 5 B b (.pointer (some ⟨b, 0, none⟩)) bs w' ∧ Below B w w'
theorem check_any (B b : Nat) (bs : List Value) (w : World) (h : Lib.IsBuilder 88 5 B b bs w) : Calls Tryz.prog 47 #[.pointer (some ⟨b, 0, none⟩)] w (Used B b bs w) := by
  cases h with
  | inl h => exact (check_new b w h.cell0 h.shape h.frozen0).mono fun e w' ⟨he, hw⟩ => ⟨he, hw ▸ h.used _, hw ▸ (Below.refl B w).setCell (p := ⟨b, 0, none⟩) h.1 _⟩
  | inr h => exact (check_old b w h.cell0).mono fun e w' ⟨he, hw⟩ => ⟨he, hw ▸ h, hw ▸ Below.refl B w⟩

theorem bld_lt {b : Nat} {o : Obj} {w : World} (h : w.heap[b]? = some o) : b < w.heap.size := (Array.getElem?_eq_some_iff.1 h).1

set_option maxHeartbeats 2000000 in
set_option maxRecDepth 100000 in
theorem writeString_any (B b : Nat) (l : List UInt8) (s : ByteArray) (w : World) (h : Bld B b l w) (hlen : l.length + s.size ≤ 140737488355328) (hBw : B ≤ w.heap.size) :
    Calls Tryz.prog 34 #[.pointer (some ⟨b, 0, none⟩), .string s] w fun e w' => e = .returned (.tuple #[.int .i64 s.size, .nilIface]) ∧ Bld B b (l ++ s.data.toList) w' ∧ Below B w w' := by
  obtain ⟨i0, hi, hz0, hz1, hz2⟩ := info_parts bld_byte
  have HI := Lib.hid (And.intro hi (And.intro hz0 (And.intro hz1 hz2)))
  have HL := Lib.hid (show (Lib.byteCells l).length + s.size ≤ 140737488355328 by rw [Lib.byteCells_length]; exact hlen)
  clear hi hz0 hz1 hz2 hlen
  go_enter Tryz.func34, Tryz.ntmps34
  go_wp2_with fail
  refine (check_any B b _ _ h).mono ?_
  rintro e w1 ⟨rfl, ⟨hB, v, hbk, hown, hne⟩, hb1⟩
  have hsz := hb1.size
  have c1 : w1.cell? ⟨b, 1, none⟩ = some v := Lib.cell_of_heap hbk 1
  go_wp2_with (at_builtin; refine Lib.wpList_append_own_string _ rfl _ _ 74 9 rfl B 5 i0 Tryz.underlying74 Tryz.underlying9 HI.out.1 HI.out.2.1 HI.out.2.2.1 HI.out.2.2.2 _ _ _ rfl hown s rfl ?b1 ?b2 ?b3 ?_)
  case b1 => have := HL.out; unfold maxLen; omega
  case b2 => have := HL.out; omega
  case b3 => omega
  intro v' w2 hown' hgrow _
  have hb2 : w2.heap[b]? = some (.cells #[.pointer (some ⟨b, 0, none⟩), v] 88 (0, 0)) := (hgrow.block b (bld_lt hbk) fun e => hne e.symm).trans hbk
  have d1 : w2.cell? ⟨b, 1, none⟩ = some v := Lib.cell_of_heap hb2 1
  have f1 : w2.frozen? ⟨b, 1, none⟩ = false := Lib.frozen_of_heap hb2 1
  obtain ⟨ao, n', cap, rfl⟩ : ∃ ao n' cap, v' = .slice ao n' cap := by
    rcases hown'.2 with ⟨e, _⟩ | ⟨g, cap, cur, e, _⟩ <;> exact ⟨_, _, _, e⟩
  go_wp2
  go_ret2
  refine ⟨rfl, .inr ?_, (hb1.grown hgrow (by omega) (fun k hk => (hown.lt k hk).1)).setCell (p := ⟨b, 1, none⟩) hB _⟩
  rw [Lib.byteCells_append]
  exact Lib.BuilderAt.put hB hb2 (bs' := Lib.byteCells l ++ Lib.strCells s) (by simpa [Lib.strCells_length] using hown') (by decide)


end Go.Proofs.YtglchiomdojjoaaGreatFmt
