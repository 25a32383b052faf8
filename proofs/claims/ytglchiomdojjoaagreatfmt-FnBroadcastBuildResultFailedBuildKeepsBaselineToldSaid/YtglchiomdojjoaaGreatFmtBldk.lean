/-
  The contracts of strings.Builder's writers, keeping every block that is neither the builder's nor a row of bytes (the iterator of a range over a string among them); conditions: those that each names.
-/
import Derived.Test.YtglchiomdojjoaaGreatFmtBld
import Derived.Test.YtglchiomdojjoaaGreatFmtStr
import Derived.Test.YtglchiomdojjoaaGreatFmtShelf
import Derived.Lib.OthersKept
import Derived.Lib.RuneBytes
namespace Go.Proofs.YtglchiomdojjoaaGreatFmt
open Go.RowKit

/-- Nothing but the builder's block b and rows of bytes has changed. -/
def Kept (b : Nat) (w w' : World) : Prop := Lib.OthersKept 5 (some b) w w'

theorem ownsRow_kind {w : World} {B : Nat} {e : TypeId} {v : Value} {n : Nat} {xs : List Value} (h : w.ownsRow B e 1 v n xs) : ∀ g, v.ownBlock = some g → ∃ c fz, w.heap[g]? = some (.cells c e fz) := Lib.ownsRowF_kind (World.ownsRowF_of h)
theorem slice_of_owns {w : World} {B : Nat} {e : TypeId} {v : Value} {n : Nat} {xs : List Value} (h : w.ownsRow B e 1 v n xs) : ∃ ao cap, v = .slice ao n cap := by
  rcases h.2 with ⟨rfl, rfl⟩ | ⟨g, cap, cur, rfl, _⟩
  · exact ⟨_, _, rfl⟩
  · exact ⟨_, _, rfl⟩

theorem check_k (B b : Nat) (bs : List Value) (w : World) (h : Lib.IsBuilder 88 5 B b bs w) : Calls Tryz.prog 47 #[.pointer (some ⟨b, 0, none⟩)] w fun e w' =>
    e = .returned (.tuple #[]) ∧ Lib.BuilderAt 88 5 B b (.pointer (some ⟨b, 0, none⟩)) bs w' ∧ Below B w w' ∧ Kept b w w' := by
  cases h with
  | inl h => exact (check_new b w h.cell0 h.shape h.frozen0).mono fun e w' ⟨he, hw⟩ => ⟨he, hw ▸ h.used _, hw ▸ (Below.refl B w).setCell (p := ⟨b, 0, none⟩) h.1 _, hw ▸ (Lib.OthersKept.refl _ _ w).setCell ⟨b, 0, none⟩ rfl _⟩
  | inr h => exact (check_old b w h.cell0).mono fun e w' ⟨he, hw⟩ => ⟨he, hw ▸ h, hw ▸ Below.refl B w, hw ▸ Lib.OthersKept.refl _ _ w⟩

theorem Bld.below {B b : Nat} {l : List UInt8} {w w' : World} (h : Bld B b l w) (hb : Below w.heap.size w w') : Bld B b l w' := by
  have key : ∀ p, Lib.BuilderAt 88 5 B b p (Lib.byteCells l) w → Lib.BuilderAt 88 5 B b p (Lib.byteCells l) w' := fun p h => by
    have hlt := h.lt
    obtain ⟨hB, v, hv, hown, hne⟩ := h
    exact ⟨hB, v, (hb.block b hlt).trans hv, hown.kept (row := none) ⟨hb.os, hb.tape, hb.output, hb.size, fun k hk _ => hb.block k hk⟩ (Classical.em _), hne⟩
  exact h.elim (fun x => .inl (key _ x)) (fun x => .inr (key _ x))
theorem Bld.iterAt {B b : Nat} {l : List UInt8} {w : World} (h : Bld B b l w) {k : Nat} {s : ByteArray} {pos : Nat} (hk : w.heap[k]? = some (.stringIter s pos)) (pos' : Nat) : Bld B b l (w.iterAt k s pos') := by
  have key : ∀ p, Lib.BuilderAt 88 5 B b p (Lib.byteCells l) w → Lib.BuilderAt 88 5 B b p (Lib.byteCells l) (w.iterAt k s pos') := fun p h => by
    obtain ⟨hB, v, hv, hown, hne⟩ := h
    have hkb : b ≠ k := by
      intro e1
      rw [e1, hk] at hv
      cases hv
    refine ⟨hB, v, (Lib.iterAt_other w k b s pos' hkb).trans hv, ⟨hown.1, ?_⟩, hne⟩
    rcases hown.2 with hn | ⟨g, cap, cur, hv, hbg, hg, rest⟩
    · exact .inl hn
    · have hkg : g ≠ k := by
        intro e1
        rw [e1, hk] at hg
        cases hg
      exact .inr ⟨g, cap, cur, hv, hbg, (Lib.iterAt_other w k g s pos' hkg).trans hg, rest⟩
  exact h.elim (fun x => .inl (key _ x)) (fun x => .inr (key _ x))

set_option maxHeartbeats 2000000 in
set_option maxRecDepth 100000 in
theorem writeRune_k (B b : Nat) (l : List UInt8) (r : Int) (hr0 : -2147483648 ≤ r) (hr1 : r ≤ 2147483647) (w : World) (h : Bld B b l w) (hlen : l.length + 4 ≤ 140737488355328) (hBw : B ≤ w.heap.size) :
    Calls Tryz.prog 35 #[.pointer (some ⟨b, 0, none⟩), .int .i32 r] w fun e w' => (∃ k, e = .returned (.tuple #[.int .i64 k, .nilIface])) ∧ Bld B b (l ++ Lib.encodeRune r) w' ∧ Below B w w' ∧ Kept b w w' := by
  have HL := Lib.hid (show (Lib.byteCells l).length + 4 ≤ 140737488355328 by rw [Lib.byteCells_length]; exact hlen)
  clear hlen
  go_enter Tryz.func35, Tryz.ntmps35
  go_wp2_with fail
  refine (check_k B b _ _ h).mono ?_
  rintro e w1 ⟨rfl, ⟨hB, v, hbk, hown, hne⟩, hb1, hk1⟩
  have hsz := hb1.size
  have HK := Lib.hid hk1
  have HB1 := Lib.hid hb1
  have HO := Lib.hid (And.intro hown hne)
  obtain ⟨ao, cap, rfl⟩ := slice_of_owns hown
  have c1 : w1.cell? ⟨b, 1, none⟩ = some (.slice ao (Lib.byteCells l).length cap) := Lib.cell_of_heap hbk 1
  have HBK := Lib.hid hbk
  clear hk1 hown hne hb1 hbk
  go_wp2_with fail
  refine (Tryz.utf8_AppendRune_plain B (.slice ao (Lib.byteCells l).length cap) (Lib.byteCells l).length (Lib.byteCells l) r hr0 hr1 w1 HO.out.1 HL.out (by omega)).mono ?_
  rintro e w2 ⟨v', rfl, hown', o, hgrow⟩
  have hbk := HBK.out
  have hOne := HO.out
  have hb2 : w2.heap[b]? = some (.cells #[.pointer (some ⟨b, 0, none⟩), .slice ao (Lib.byteCells l).length cap] 88 (0, 0)) := ((hgrow.block b (by have := bld_lt hbk; simp; omega) fun e => hOne.2 e.symm).trans (Below.heap_alloc _ _ b (bld_lt hbk))).trans hbk
  have hk2 : Kept b w w2 := (Lib.OthersKept.alloc HK.out _).grown hgrow (ownsRow_kind (hOne.1.alloc _))
  have hbw2 : Below B w w2 := (HB1.out.alloc (by omega) _).grown hgrow (by simp; omega) (fun k hk => (hOne.1.lt k hk).1)
  have HE := Lib.hid (And.intro hk2 (And.intro hbw2 (And.intro hb2 hown')))
  have d1 : w2.cell? ⟨b, 1, none⟩ = some (.slice ao (Lib.byteCells l).length cap) := Lib.cell_of_heap hb2 1
  have f1 : w2.frozen? ⟨b, 1, none⟩ = false := Lib.frozen_of_heap hb2 1
  obtain ⟨ao', cap', rfl⟩ := slice_of_owns hown'
  have hb2lt := bld_lt hb2
  clear hbk hOne hk2 hbw2 hb2 hown' hgrow
  go_wp2
  go_ret2
  refine ⟨⟨_, rfl⟩, .inr ?_, HE.out.2.1.setCell (p := ⟨b, 1, none⟩) hB _, Lib.OthersKept.setCell HE.out.1 ⟨b, 1, none⟩ rfl _⟩
  rw [Lib.byteCells_append, Lib.byteCells_encodeRune]
  exact Lib.BuilderAt.put hB HE.out.2.2.1 (bs' := Lib.byteCells l ++ Lib.runeCells r) (by have := HE.out.2.2.2; rw [List.length_append]; exact this) (by decide)

end Go.Proofs.YtglchiomdojjoaaGreatFmt
