/-
  Rows of one-cell values in memory: what came in, and what the call made; no program in sight (conditions: those that each lemma names).
-/
import Derived.WalkKit
import Derived.Lib.Hide
import Derived.OpenShut
namespace Go.Proofs.YtglchiomdojjoaaGreatFmt
open Go.RowKit

/-- The slice value of address a, length len, capacity cap holds the values vs. -/
def InRow (w : World) (a : Option Addr) (len cap : Nat) (vs : List Value) : Prop :=
  (a = none ∧ len = 0 ∧ cap = 0 ∧ vs = []) ∨ ∃ x, a = some x ∧ len ≤ cap ∧ cap ≤ maxLen ∧ vs.length = len ∧ ∀ i u, vs[i]? = some u → w.cell? (x.add i) = some u

theorem inRow_of {α : Type} {w : World} (x : Addr) (len cap : Nat) (zs : List α) (con : α → Value) (d : α) (hl : len ≤ cap) (hm : cap ≤ maxLen) (hz : zs.length = cap)
    (hc : ∀ i, i < zs.length → w.cell? (x.add i) = some (con (zs.getD i d))) : InRow w (some x) len cap ((zs.take len).map con) := by
  refine .inr ⟨x, rfl, hl, hm, by simp; omega, fun i u hu => ?_⟩
  rw [List.getElem?_map, Option.map_eq_some_iff] at hu
  obtain ⟨z, hz', rfl⟩ := hu
  have hi : i < len := by
    have := (List.getElem?_eq_some_iff.1 hz').1
    simp at this
    omega
  rw [List.getElem?_take_of_lt hi] at hz'
  rw [hc i (by omega), List.getD_eq_getElem?_getD, hz']
  rfl
theorem inRow_fn {α : Type} {w : World} (x : Addr) (len cap : Nat) (f : Nat → α) (con : α → Value) (hl : len ≤ cap) (hm : cap ≤ maxLen)
    (hc : ∀ i, i < cap → w.cell? (x.add i) = some (con (f i))) : InRow w (some x) len cap (((List.range len).map f).map con) := by
  refine .inr ⟨x, rfl, hl, hm, by simp, fun i u hu => ?_⟩
  rw [List.getElem?_map, Option.map_eq_some_iff] at hu
  obtain ⟨z, hz', rfl⟩ := hu
  have hi : i < len := by
    have := (List.getElem?_eq_some_iff.1 hz').1
    simpa using this
  rw [List.getElem?_map, List.getElem?_range hi] at hz'
  simp at hz'
  rw [hc i (by omega), hz']
theorem InRow.len {w : World} {a : Option Addr} {len cap : Nat} {vs : List Value} (h : InRow w a len cap vs) : vs.length = len := by
  rcases h with ⟨_, rfl, _, rfl⟩ | ⟨x, _, _, _, h, _⟩
  · rfl
  · exact h
theorem InRow.cap {w : World} {a : Option Addr} {len cap : Nat} {vs : List Value} (h : InRow w a len cap vs) : len ≤ cap ∧ cap ≤ maxLen := by
  rcases h with ⟨_, rfl, rfl, _⟩ | ⟨x, _, h1, h2, _⟩
  · exact ⟨Nat.le_refl _, Nat.zero_le _⟩
  · exact ⟨h1, h2⟩
theorem InRow.below {B : Nat} {w w' : World} {a : Option Addr} {len cap : Nat} {vs : List Value} (h : InRow w a len cap vs) (hb : Below B w w') (hB : ∀ x, a = some x → vs ≠ [] → x.block < B) : InRow w' a len cap vs := by
  rcases h with h | ⟨x, h1, h2, h3, h4, h5⟩
  · exact .inl h
  · refine .inr ⟨x, h1, h2, h3, h4, fun i u hu => ?_⟩
    have hne : vs ≠ [] := by rintro rfl; simp at hu
    rw [hb.cell (p := x.add i) (by
      have := hB x h1 hne
      unfold Addr.add
      split <;> exact this)]
    exact h5 i u hu
theorem add_block (x : Addr) (i : Nat) : (x.add i).block = x.block := by unfold Addr.add; split <;> rfl
theorem InRow.up {w w' : World} {a : Option Addr} {len cap : Nat} {vs : List Value} (h : InRow w a len cap vs) (hb : Below w.heap.size w w') : InRow w' a len cap vs := by
  rcases h with h | ⟨x, h1, h2, h3, h4, h5⟩
  · exact .inl h
  · refine .inr ⟨x, h1, h2, h3, h4, fun i u hu => ?_⟩
    rw [hb.cell (p := x.add i) (World.block_lt_of_cell? w _ (h5 i u hu))]
    exact h5 i u hu
/-- The address and the cell of element i. -/
theorem InRow.at {w : World} {a : Option Addr} {len cap : Nat} {vs : List Value} (h : InRow w a len cap vs) {i : Nat} (hi : i < len) : ∃ x, a = some x ∧ w.cell? (x.add i) = vs[i]? := by
  rcases h with ⟨_, h, _⟩ | ⟨x, h1, _, _, h4, h5⟩
  · omega
  · refine ⟨x, h1, ?_⟩
    obtain ⟨u, hu⟩ : ∃ u, vs[i]? = some u := ⟨_, List.getElem?_eq_getElem (by omega)⟩
    rw [hu, h5 i u hu]
theorem InRow.nil (w : World) : InRow w none 0 0 [] := .inl ⟨rfl, rfl, rfl, rfl⟩

end Go.Proofs.YtglchiomdojjoaaGreatFmt
