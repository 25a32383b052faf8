/-
  Plain facts on worlds: rows of strings and a builder beside each other; no program in sight (conditions: those that each lemma names).
-/
import Derived.Test.YtpjpdeecpobmlaaFmtBldk
import Derived.Test.YtpjpdeecpobmlaaFmtPge
import Derived.Test.YtpjpdeecpobmlaaFmtSpl
import Derived.Maps.RangeWalk
import Derived.Maps.OwnSet
import Derived.Sort.OwnSorted
namespace Go.Proofs.YtpjpdeecpobmlaaFmt
open Go.RowKit Go.Maps Go.Sort

theorem grown_of {w w' : World} (h : Below w.heap.size w w') : w.grownBy w' none := ⟨h.os, h.tape, h.output, h.size, fun k hk _ => h.block k hk⟩
theorem Bld.grown {B b : Nat} {l : List UInt8} {w w' : World} (h : Bld B b l w) {r : Nat} (hg : w.grownBy w' (some r)) (hr : ∀ c t fz, w.heap[r]? = some (.cells c t fz) → t = 9) : Bld B b l w' := by
  have key : ∀ p, Lib.BuilderAt 33 5 B b p (Lib.byteCells l) w → Lib.BuilderAt 33 5 B b p (Lib.byteCells l) w' := fun p h => by
    have hlt := h.lt
    obtain ⟨hB, v, hv, hown, hne⟩ := h
    have hrb : r ≠ b := by
      rintro rfl
      have := hr _ _ _ hv
      cases this
    refine ⟨hB, v, (hg.block b hlt (fun e => hrb (Option.some.inj e).symm)).trans hv, hown.kept hg (.inr fun e => ?_), hne⟩
    obtain ⟨c, fz, hc⟩ := ownsRow_kind hown r e
    have := hr _ _ _ hc
    cases this
  exact h.elim (fun x => .inl (key _ x)) (fun x => .inr (key _ x))
theorem Bld.at {B b : Nat} {l : List UInt8} {w : World} (h : Bld B b l w) : ∃ cs, w.heap[b]? = some (.cells cs 33 (0, 0)) := by
  rcases h with ⟨_, v, hv, _⟩ | ⟨_, v, hv, _⟩ <;> exact ⟨_, hv⟩
theorem own9_kept {B B2 b : Nat} {l : List UInt8} {w w' : World} {v : Value} {n : Nat} {xs : List Value} (h : w.ownsRow B 9 1 v n xs) (hb : Bld B2 b l w) (hk : Kept b w w') : w'.ownsRow B 9 1 v n xs := by
  obtain ⟨cs, hcs⟩ := hb.at
  refine ⟨h.1, ?_⟩
  rcases h.2 with h | ⟨g, cap, cur, hv, hbase, hg, rest⟩
  · exact .inl h
  · refine .inr ⟨g, cap, cur, hv, hbase, hk g _ hg ?_ (fun c fz e => by cases e), rest⟩
    intro e
    rw [Option.some.inj e, hcs] at hg
    cases hg
theorem own9_up {B : Nat} {w w' : World} {v : Value} {n : Nat} {xs : List Value} (h : w.ownsRow B 9 1 v n xs) (hb : Below w.heap.size w w') : w'.ownsRow B 9 1 v n xs := h.kept (grown_of hb) (Classical.em _)

/-- Block g is a row of strings that reads as ps. -/
def SRow (w : World) (g : Nat) (ps : List (List UInt8)) : Prop := ∃ cur, w.heap[g]? = some (.cells cur 9 (0, 0)) ∧ ∀ (i : Nat) (x : List UInt8), ps[i]? = some x → cur[i]? = some (Value.string (S x))
theorem SRow.cell {w : World} {g : Nat} {ps : List (List UInt8)} (h : SRow w g ps) {i : Nat} {x : List UInt8} (hx : ps[i]? = some x) : w.cell? ⟨g, i, none⟩ = some (.string (S x)) := by
  obtain ⟨cur, h1, h2⟩ := h
  rw [cell_of_row w g i cur _ (0, 0) h1]
  exact h2 i x hx
theorem SRow.lt {w : World} {g : Nat} {ps : List (List UInt8)} (h : SRow w g ps) : g < w.heap.size := by
  obtain ⟨cur, h1, _⟩ := h
  exact (Array.getElem?_eq_some_iff.1 h1).1
theorem SRow.up {w w' : World} {g : Nat} {ps : List (List UInt8)} (h : SRow w g ps) (hb : Below w.heap.size w w') : SRow w' g ps := by
  have hl := h.lt
  obtain ⟨cur, h1, h2⟩ := h
  exact ⟨cur, (hb.block g hl).trans h1, h2⟩
theorem SRow.kept {w w' : World} {g B b : Nat} {l : List UInt8} {ps : List (List UInt8)} (h : SRow w g ps) (hb : Bld B b l w) (hk : Kept b w w') : SRow w' g ps := by
  obtain ⟨cs, hcs⟩ := hb.at
  obtain ⟨cur, h1, h2⟩ := h
  refine ⟨cur, hk g _ h1 ?_ (fun c fz e => by cases e), h2⟩
  intro e
  rw [Option.some.inj e, hcs] at h1
  cases h1
theorem srow_of {B : Nat} {w : World} {A : Option Addr} {n cap : Nat} {ps : List (List UInt8)} (h : w.ownsRow B 9 1 (.slice A n cap) ps.length (sv ps)) (h0 : 0 < ps.length) : ∃ g, A = some ⟨g, 0, none⟩ ∧ n = ps.length ∧ n ≤ cap ∧ SRow w g ps := by
  rcases h.2 with ⟨_, h1⟩ | ⟨g, cap', cur, hv, _, hg, hn, _, hs, ht⟩
  · omega
  · cases hv
    refine ⟨g, rfl, rfl, hn, ⟨cur, hg, fun i x hx => ?_⟩⟩
    have hi := (List.getElem?_eq_some_iff.1 hx).1
    have e : (cur.toList.take (ps.length * 1))[i]? = (sv ps)[i]? := by rw [ht]
    rw [List.getElem?_take_of_lt (by omega), Array.getElem?_toList] at e
    rw [e]
    simp [sv, hx]

/-- The keys of a map, sorted. -/
def keysS {H : Type} (D : DataW H) : List (List UInt8) := (strKeys D).mergeSort leB

end Go.Proofs.YtpjpdeecpobmlaaFmt
