/-
  The contracts of strings.Builder's writers over this translation (its copyCheck bears a refused statement on a road that is never taken, so the shelf's laying of these does not fit); conditions: those that each names.
-/
import Derived.Test.YtmnoffiblcnjpaaProg
import Derived.KernelRfl
import Derived.Lib.Builder
import Derived.Lib.AppendStr
import Derived.Lib.UnsafeStr
import Derived.WalkKit
import Derived.Laws.Externs
import Derived.Lib.Hide
namespace Go.Proofs.Ytmnoffiblcnjpaa
open Go.RowKit

theorem bld_byte : (Try.prog.info? 5).map (fun i => (i.zero, i.size, i.bytes)) = some (some (.int .u8 0), 1, 1) := by kernel_rfl
theorem bld_size : (Try.prog.info? 45).map (·.size) = some 2 := by kernel_rfl
theorem bld_lies : liesAt Try.prog Try.prog.depth 45 (2 / Try.prog.cellsOf 45) 0 45 1 = true := by kernel_rfl
theorem bld_same (args : Array Value) (w : World) : (callFunc 33 args).run Try.prog w = ((Extern.AbiNoEscape.same args).run Try.prog w).andThen fun v w' => .ok (.value v) w' :=
  run_callFunc_extern Try.func33 (by kernel_rfl) (by kernel_rfl) (by kernel_rfl) (by kernel_rfl) args w

/-- A builder of this translation: block b, from B on, holding the bytes l. -/
def Bld (B b : Nat) (l : List UInt8) (w : World) : Prop := Lib.IsBuilder 45 5 B b (Lib.byteCells l) w

set_option maxHeartbeats 1000000 in
set_option maxRecDepth 100000 in
theorem check_old (b : Nat) (w : World) (h0 : w.cell? ⟨b, 0, none⟩ = some (.pointer (some ⟨b, 0, none⟩))) :
    Calls Try.prog 21 #[.pointer (some ⟨b, 0, none⟩)] w fun e w' => e = .returned (.tuple #[]) ∧ w = w' := by
  obtain ⟨j, hj, _⟩ := Option.map_eq_some_iff.1 bld_size
  have same := Lib.run_neq_ptr_same (P := Try.prog) w ⟨b, 0, none⟩ Try.underlying42 hj
  go_enter Try.func21, Try.ntmps21
  go_wp2
  go_end0
  exact ⟨rfl, rfl⟩

set_option maxHeartbeats 1000000 in
set_option maxRecDepth 100000 in
theorem check_new (b : Nat) (w : World) (h0 : w.cell? ⟨b, 0, none⟩ = some (.pointer none)) (hsh : w.shape? b = some (45, 2)) (hfz : w.frozen? ⟨b, 0, none⟩ = false) :
    Calls Try.prog 21 #[.pointer (some ⟨b, 0, none⟩)] w fun e w' => e = .returned (.tuple #[]) ∧ w' = w.setCell ⟨b, 0, none⟩ (.pointer (some ⟨b, 0, none⟩)) := by
  obtain ⟨j, hj, hjs⟩ := Option.map_eq_some_iff.1 bld_size
  have out := Lib.run_to_unsafe (P := Try.prog) w ⟨b, 0, none⟩ Try.underlying42 Try.underlying74 hj (by rw [hjs]; decide) hsh (Nat.zero_lt_succ 1)
  have back := Lib.run_from_unsafe (P := Try.prog) w ⟨b, 0, none⟩ Try.underlying74 Try.underlying42 hj hsh bld_lies
  have mid := bld_same
  have keep := fun (x : Value) (wx : World) => Lib.run_noEscape (P := Try.prog) wx x
  go_enter Try.func21, Try.ntmps21
  go_wp2
  go_end0
  exact ⟨rfl, rfl⟩

def Used (B b : Nat) (bs : List Value) (w : World) (e : Ending) (w' : World) : Prop := e = .returned (.tuple #[]) ∧ Lib.BuilderAt 45 5 B b (.pointer (some ⟨b, 0, none⟩)) bs w' ∧ Below B w w'
theorem check_any (B b : Nat) (bs : List Value) (w : World) (h : Lib.IsBuilder 45 5 B b bs w) : Calls Try.prog 21 #[.pointer (some ⟨b, 0, none⟩)] w (Used B b bs w) := by
  cases h with
  | inl h => exact (check_new b w h.cell0 h.shape h.frozen0).mono fun e w' ⟨he, hw⟩ => ⟨he, hw ▸ h.used _, hw ▸ (Below.refl B w).setCell (p := ⟨b, 0, none⟩) h.1 _⟩
  | inr h => exact (check_old b w h.cell0).mono fun e w' ⟨he, hw⟩ => ⟨he, hw ▸ h, hw ▸ Below.refl B w⟩

theorem bld_lt {b : Nat} {o : Obj} {w : World} (h : w.heap[b]? = some o) : b < w.heap.size := (Array.getElem?_eq_some_iff.1 h).1

set_option maxHeartbeats 2000000 in
set_option maxRecDepth 100000 in
theorem writeString_any (B b : Nat) (l : List UInt8) (s : ByteArray) (w : World) (h : Bld B b l w) (hlen : l.length + s.size ≤ 140737488355328) (hBw : B ≤ w.heap.size) :
    Calls Try.prog 17 #[.pointer (some ⟨b, 0, none⟩), .string s] w fun e w' => e = .returned (.tuple #[.int .i64 s.size, .nilIface]) ∧ Bld B b (l ++ s.data.toList) w' ∧ Below B w w' := by
  obtain ⟨i0, hi, hz0, hz1, hz2⟩ := info_parts bld_byte
  have HI := Lib.hid (And.intro hi (And.intro hz0 (And.intro hz1 hz2)))
  have HL := Lib.hid (show (Lib.byteCells l).length + s.size ≤ 140737488355328 by rw [Lib.byteCells_length]; exact hlen)
  clear hi hz0 hz1 hz2 hlen
  go_enter Try.func17, Try.ntmps17
  go_wp2_with fail
  refine (check_any B b _ _ h).mono ?_
  rintro e w1 ⟨rfl, ⟨hB, v, hbk, hown, hne⟩, hb1⟩
  have hsz := hb1.size
  have c1 : w1.cell? ⟨b, 1, none⟩ = some v := Lib.cell_of_heap hbk 1
  go_wp2_with (at_builtin; refine Lib.wpList_append_own_string _ rfl _ _ 43 9 rfl B 5 i0 Try.underlying43 Try.underlying9 HI.out.1 HI.out.2.1 HI.out.2.2.1 HI.out.2.2.2 _ _ _ rfl hown s rfl ?b1 ?b2 ?b3 ?_)
  case b1 => have := HL.out; unfold maxLen; omega
  case b2 => have := HL.out; omega
  case b3 => omega
  intro v' w2 hown' hgrow _
  have hb2 : w2.heap[b]? = some (.cells #[.pointer (some ⟨b, 0, none⟩), v] 45 (0, 0)) := (hgrow.block b (bld_lt hbk) fun e => hne e.symm).trans hbk
  have d1 : w2.cell? ⟨b, 1, none⟩ = some v := Lib.cell_of_heap hb2 1
  have f1 : w2.frozen? ⟨b, 1, none⟩ = false := Lib.frozen_of_heap hb2 1
  obtain ⟨ao, n', cap, rfl⟩ : ∃ ao n' cap, v' = .slice ao n' cap := by
    rcases hown'.2 with ⟨e, _⟩ | ⟨g, cap, cur, e, _⟩ <;> exact ⟨_, _, _, e⟩
  go_wp2
  go_ret2
  refine ⟨rfl, .inr ?_, (hb1.grown hgrow (by omega) (fun k hk => (hown.lt k hk).1)).setCell (p := ⟨b, 1, none⟩) hB _⟩
  rw [Lib.byteCells_append]
  exact Lib.BuilderAt.put hB hb2 (bs' := Lib.byteCells l ++ Lib.strCells s) (by simpa [Lib.strCells_length] using hown') (by decide)

set_option maxHeartbeats 2000000 in
set_option maxRecDepth 100000 in
theorem writeByte_any (B b : Nat) (l : List UInt8) (x : UInt8) (c : Int) (hc : c = (x.toNat : Int)) (w : World) (h : Bld B b l w) (hlen : l.length + 1 ≤ 140737488355328) (hBw : B ≤ w.heap.size) :
    Calls Try.prog 13 #[.pointer (some ⟨b, 0, none⟩), .int .u8 c] w fun e w' => e = .returned .nilIface ∧ Bld B b (l ++ [x]) w' ∧ Below B w w' := by
  obtain ⟨i0, hi, hz0, hz1, hz2⟩ := info_parts bld_byte
  have HI := Lib.hid (And.intro hi (And.intro hz0 (And.intro hz1 hz2)))
  have HL := Lib.hid (show (Lib.byteCells l).length + 1 ≤ 140737488355328 by rw [Lib.byteCells_length]; exact hlen)
  have HC := Lib.hid hc
  clear hi hz0 hz1 hz2 hlen hc
  go_enter Try.func13, Try.ntmps13
  go_wp2_with fail
  refine (check_any B b _ _ h).mono ?_
  rintro e w1 ⟨rfl, ⟨hB, v, hbk, hown, hne⟩, hb1⟩
  have hsz := hb1.size
  have c1 : w1.cell? ⟨b, 1, none⟩ = some v := Lib.cell_of_heap hbk 1
  go_wp2_with (at_builtin; refine wpList_append_own _ rfl _ _ 43 rfl B 5 i0 (.int .u8 0) 1 1 Try.underlying43 HI.out.1 HI.out.2.1 HI.out.2.2.1 HI.out.2.2.2 rfl (by decide) _ _ _ rfl (hown.alloc _) ⟨w1.heap.size, 0, none⟩ 1 1 [.int .u8 c] rfl rfl ?a1 ?a2 ?a3 ?a4 ?a5 ?_)
  case a1 =>
    intro j u hj
    have hj0 : j = 0 := by have := (List.getElem?_eq_some_iff.1 hj).1; simp at this; omega
    subst hj0
    injection hj with hj
    subst hj
    simp [Addr.add]
  case a2 => intro u hu; rw [List.mem_singleton] at hu; subst hu; rfl
  case a3 => have := HL.out; unfold maxLen; omega
  case a4 => have := HL.out; omega
  case a5 => simp; omega
  intro v' w2 hown' hgrow _
  have hb2 : w2.heap[b]? = some (.cells #[.pointer (some ⟨b, 0, none⟩), v] 45 (0, 0)) := ((hgrow.block b (by have := bld_lt hbk; simp; omega) fun e => hne e.symm).trans (Below.heap_alloc _ _ b (bld_lt hbk))).trans hbk
  have d1 : w2.cell? ⟨b, 1, none⟩ = some v := Lib.cell_of_heap hb2 1
  have f1 : w2.frozen? ⟨b, 1, none⟩ = false := Lib.frozen_of_heap hb2 1
  obtain ⟨ao, n', cap, rfl⟩ : ∃ ao n' cap, v' = .slice ao n' cap := by
    rcases hown'.2 with ⟨e, _⟩ | ⟨g, cap, cur, e, _⟩ <;> exact ⟨_, _, _, e⟩
  go_wp2
  go_ret
  refine ⟨rfl, .inr ?_, ((hb1.alloc (by omega) _).grown hgrow (by simp; omega) (fun k hk => (hown.lt k hk).1)).setCell (p := ⟨b, 1, none⟩) hB _⟩
  rw [Lib.byteCells_append, show Lib.byteCells [x] = [.int .u8 c] by rw [HC.out]; rfl]
  exact Lib.BuilderAt.put hB hb2 (bs' := Lib.byteCells l ++ [.int .u8 c]) (by simpa using hown') (by decide)

end Go.Proofs.Ytmnoffiblcnjpaa
