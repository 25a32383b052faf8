/-
  The contracts of strings.Builder's writers, keeping every block that is neither the builder's nor a row of bytes (the iterator of a range over a string among them); conditions: those that each names.
-/
import Derived.Test.YtmnoffiblcnjpaaBld
import Derived.Test.YtmnoffiblcnjpaaStr
import Derived.Test.YtmnoffiblcnjpaaShelf
import Derived.Lib.OthersKept
import Derived.Lib.RuneBytes
namespace Go.Proofs.Ytmnoffiblcnjpaa
open Go.RowKit

/-- Nothing but the builder's block b and rows of bytes has changed. -/
def Kept (b : Nat) (w w' : World) : Prop := Lib.OthersKept 5 (some b) w w'

theorem ownsRow_kind {w : World} {B : Nat} {e : TypeId} {v : Value} {n : Nat} {xs : List Value} (h : w.ownsRow B e 1 v n xs) : ∀ g, v.ownBlock = some g → ∃ c fz, w.heap[g]? = some (.cells c e fz) := Lib.ownsRowF_kind (World.ownsRowF_of h)
theorem slice_of_owns {w : World} {B : Nat} {e : TypeId} {v : Value} {n : Nat} {xs : List Value} (h : w.ownsRow B e 1 v n xs) : ∃ ao cap, v = .slice ao n cap := by
  rcases h.2 with ⟨rfl, rfl⟩ | ⟨g, cap, cur, rfl, _⟩
  · exact ⟨_, _, rfl⟩
  · exact ⟨_, _, rfl⟩

theorem check_k (B b : Nat) (bs : List Value) (w : World) (h : Lib.IsBuilder 45 5 B b bs w) : Calls Try.prog 21 #[.pointer (some ⟨b, 0, none⟩)] w fun e w' =>
    e = .returned (.tuple #[]) ∧ Lib.BuilderAt 45 5 B b (.pointer (some ⟨b, 0, none⟩)) bs w' ∧ Below B w w' ∧ Kept b w w' := by
  cases h with
  | inl h => exact (check_new b w h.cell0 h.shape h.frozen0).mono fun e w' ⟨he, hw⟩ => ⟨he, hw ▸ h.used _, hw ▸ (Below.refl B w).setCell (p := ⟨b, 0, none⟩) h.1 _, hw ▸ (Lib.OthersKept.refl _ _ w).setCell ⟨b, 0, none⟩ rfl _⟩
  | inr h => exact (check_old b w h.cell0).mono fun e w' ⟨he, hw⟩ => ⟨he, hw ▸ h, hw ▸ Below.refl B w, hw ▸ Lib.OthersKept.refl _ _ w⟩

theorem Bld.below {B b : Nat} {l : List UInt8} {w w' : World} (h : Bld B b l w) (hb : Below w.heap.size w w') : Bld B b l w' := by
  have key : ∀ p, Lib.BuilderAt 45 5 B b p (Lib.byteCells l) w → Lib.BuilderAt 45 5 B b p (Lib.byteCells l) w' := fun p h => by
    have hlt := h.lt
    obtain ⟨hB, v, hv, hown, hne⟩ := h
    exact ⟨hB, v, (hb.block b hlt).trans hv, hown.kept (row := none) ⟨hb.os, hb.tape, hb.output, hb.size, fun k hk _ => hb.block k hk⟩ (Classical.em _), hne⟩
  exact h.elim (fun x => .inl (key _ x)) (fun x => .inr (key _ x))
theorem Bld.iterAt {B b : Nat} {l : List UInt8} {w : World} (h : Bld B b l w) {k : Nat} {s : ByteArray} {pos : Nat} (hk : w.heap[k]? = some (.stringIter s pos)) (pos' : Nat) : Bld B b l (w.iterAt k s pos') := by
  have key : ∀ p, Lib.BuilderAt 45 5 B b p (Lib.byteCells l) w → Lib.BuilderAt 45 5 B b p (Lib.byteCells l) (w.iterAt k s pos') := fun p h => by
    obtain ⟨hB, v, hv, hown, hne⟩ := h
    have hkb : b ≠ k := by
      intro e1
      rw [e1, hk] at hv
      cases hv
    refine ⟨hB, v, (Lib.iterAt_other w k b s pos' hkb).trans hv, ⟨hown.1, ?_⟩, hne⟩
    rcases hown.2 with hn | ⟨g, cap, cur, hv, hbg, hg, rest⟩
    · exact .inl hn
    · have hkg : g ≠ k := by
        intro e1
        rw [e1, hk] at hg
        cases hg
      exact .inr ⟨g, cap, cur, hv, hbg, (Lib.iterAt_other w k g s pos' hkg).trans hg, rest⟩
  exact h.elim (fun x => .inl (key _ x)) (fun x => .inr (key _ x))

set_option maxHeartbeats 1000000 in
set_option maxRecDepth 100000 in
theorem bldLen_any (B b : Nat) (l : List UInt8) (w : World) (h : Bld B b l w) : Calls Try.prog 59 #[.pointer (some ⟨b, 0, none⟩)] w fun e w' => e = .returned (.int .i64 l.length) ∧ w = w' := by
  obtain ⟨ao, cap, hc⟩ : ∃ ao cap, w.cell? ⟨b, 1, none⟩ = some (.slice ao l.length cap) := by
    rcases h with ⟨_, v, hv, hown, _⟩ | ⟨_, v, hv, hown, _⟩
    · obtain ⟨ao, cap, rfl⟩ := slice_of_owns hown
      exact ⟨ao, cap, by rw [Lib.cell_of_heap hv 1, ← Lib.byteCells_length l]; rfl⟩
    · obtain ⟨ao, cap, rfl⟩ := slice_of_owns hown
      exact ⟨ao, cap, by rw [Lib.cell_of_heap hv 1, ← Lib.byteCells_length l]; rfl⟩
  clear h
  go_enter Try.func59, Try.ntmps59
  go_wp2
  go_ret
  exact ⟨rfl, rfl⟩

set_option maxHeartbeats 2000000 in
set_option maxRecDepth 100000 in
theorem writeByte_k (B b : Nat) (l : List UInt8) (x : UInt8) (c : Int) (hc : c = (x.toNat : Int)) (w : World) (h : Bld B b l w) (hlen : l.length + 1 ≤ 140737488355328) (hBw : B ≤ w.heap.size) :
    Calls Try.prog 13 #[.pointer (some ⟨b, 0, none⟩), .int .u8 c] w fun e w' => e = .returned .nilIface ∧ Bld B b (l ++ [x]) w' ∧ Below B w w' ∧ Kept b w w' := by
  obtain ⟨i0, hi, hz0, hz1, hz2⟩ := info_parts bld_byte
  have HI := Lib.hid (And.intro hi (And.intro hz0 (And.intro hz1 hz2)))
  have HL := Lib.hid (show (Lib.byteCells l).length + 1 ≤ 140737488355328 by rw [Lib.byteCells_length]; exact hlen)
  have HC := Lib.hid hc
  clear hi hz0 hz1 hz2 hlen hc
  go_enter Try.func13, Try.ntmps13
  go_wp2_with fail
  refine (check_k B b _ _ h).mono ?_
  rintro e w1 ⟨rfl, ⟨hB, v, hbk, hown, hne⟩, hb1, hk1⟩
  have hsz := hb1.size
  have HK := Lib.hid hk1
  clear hk1
  have c1 : w1.cell? ⟨b, 1, none⟩ = some v := Lib.cell_of_heap hbk 1
  go_wp2_with (at_builtin; refine wpList_append_own _ rfl _ _ 43 rfl B 5 i0 (.int .u8 0) 1 1 Try.underlying43 HI.out.1 HI.out.2.1 HI.out.2.2.1 HI.out.2.2.2 rfl (by decide) _ _ _ rfl (hown.alloc _) ⟨w1.heap.size, 0, none⟩ 1 1 [.int .u8 c] rfl rfl ?a1 ?a2 ?a3 ?a4 ?a5 ?_)
  case a1 =>
    intro j u hj
    have hj0 : j = 0 := by have := (List.getElem?_eq_some_iff.1 hj).1; simp at this; omega
    subst hj0
    injection hj with hj
    subst hj
    simp [Addr.add]
  case a2 => intro u hu; rw [List.mem_singleton] at hu; subst hu; rfl
  case a3 => have := HL.out; unfold maxLen; omega
  case a4 => have := HL.out; omega
  case a5 => simp; omega
  intro v' w2 hown' hgrow _
  have hb2 : w2.heap[b]? = some (.cells #[.pointer (some ⟨b, 0, none⟩), v] 45 (0, 0)) := ((hgrow.block b (by have := bld_lt hbk; simp; omega) fun e => hne e.symm).trans (Below.heap_alloc _ _ b (bld_lt hbk))).trans hbk
  have hk2 : Kept b w w2 := (Lib.OthersKept.alloc HK.out _).grown hgrow (ownsRow_kind (hown.alloc _))
  have HK2 := Lib.hid hk2
  clear hk2
  have d1 : w2.cell? ⟨b, 1, none⟩ = some v := Lib.cell_of_heap hb2 1
  have f1 : w2.frozen? ⟨b, 1, none⟩ = false := Lib.frozen_of_heap hb2 1
  obtain ⟨ao, n', cap, rfl⟩ : ∃ ao n' cap, v' = .slice ao n' cap := by
    rcases hown'.2 with ⟨e, _⟩ | ⟨g, cap, cur, e, _⟩ <;> exact ⟨_, _, _, e⟩
  go_wp2
  go_ret
  refine ⟨rfl, .inr ?_, ((hb1.alloc (by omega) _).grown hgrow (by simp; omega) (fun k hk => (hown.lt k hk).1)).setCell (p := ⟨b, 1, none⟩) hB _, Lib.OthersKept.setCell HK2.out ⟨b, 1, none⟩ rfl _⟩
  rw [Lib.byteCells_append, show Lib.byteCells [x] = [.int .u8 c] by rw [HC.out]; rfl]
  exact Lib.BuilderAt.put hB hb2 (bs' := Lib.byteCells l ++ [.int .u8 c]) (by simpa using hown') (by decide)


end Go.Proofs.Ytmnoffiblcnjpaa
