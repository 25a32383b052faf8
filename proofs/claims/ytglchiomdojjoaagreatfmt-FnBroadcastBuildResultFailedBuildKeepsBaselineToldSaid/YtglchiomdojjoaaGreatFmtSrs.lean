/-
  sort.Strings on one of three growing rows; conditions: those that each lemma names.
-/
import Derived.Test.YtglchiomdojjoaaGreatFmtHlk
import Derived.Test.YtglchiomdojjoaaGreatFmtShelf
import Derived.Sort.OwnSorted
namespace Go.Proofs.YtglchiomdojjoaaGreatFmt
open Go.RowKit Go.Sort

theorem strs_enc (l : List Bs) : strs l = l.map encStr := rfl
theorem sort_row (B : Nat) (v : Value) (l : List Bs) (w : World) (h : RW B v l w) (hl : l.length ≤ 65536) : Calls Tryz.prog 33 #[v] w fun e w' => e = .returned (.tuple #[]) ∧ RW B v (srt l) w' ∧ w.grownBy w' v.ownBlock := by
  have h0 := h
  rcases h.2 with ⟨rfl, h1⟩ | ⟨g, cap, cur, rfl, hbase, hb, h1, h2, h3, h4⟩
  · obtain rfl := List.eq_nil_of_length_eq_zero h1
    refine (Tryz.sort_Strings_none none 0 w).mono ?_
    rintro e w' ⟨rfl, rfl⟩
    exact ⟨rfl, by rw [show srt ([] : List Bs) = [] from List.eq_nil_of_length_eq_zero (srt_length _)]; exact h0, ⟨rfl, rfl, rfl, Nat.le_refl _, fun _ _ _ => rfl⟩⟩
  · rw [strs_enc] at h4
    have hH : Holds encStr w g 0 l.toArray := holds_of_block hb (by simpa using h4)
    have hgl : g < w.heap.size := (Array.getElem?_eq_some_iff.1 hb).1
    refine (Tryz.sort_Strings g 0 cap l w hH hgl (by omega)).mono ?_
    rintro e w' ⟨rfl, n, os, rfl⟩
    refine ⟨rfl, ?_, grownBy_sorted _⟩
    have ho := ownsRow_sorted (n := n) (os := os) (ts := l.mergeSort fun x y => decide (x ≤ y)) (by simp) hbase hb h1 h2 h3
    unfold RW
    rw [srt_length, strs_enc]
    exact ho
theorem T3.sort {B : Nat} {v1 v2 v3 : Value} {l1 l2 l3 m : List Bs} {w w' : World} (h : T3 B v1 l1 v2 l2 v3 l3 w) (ho : RW B v1 m w') (hg : w.grownBy w' v1.ownBlock) : T3 B v1 m v2 l2 v3 l3 w' := by
  have key : ∀ {v : Value} {l : List Bs}, RW B v l w → Dj v1 v → RW B v l w' := fun {v l} hv hd => hv.kept hg (by
    cases hvo : v.ownBlock with
    | none => exact .inl rfl
    | some j => exact .inr fun e => hd j e.symm hvo)
  exact ⟨ho, key h.r2 h.d12, key h.r3 h.d13, h.d12, h.d13, h.d23⟩
/-- What the changing row may not be: a block that is no row of texts. -/
theorem RW.far {B k : Nat} {v : Value} {l : List Bs} {w : World} (h : RW B v l w) (hk : ∀ cs fz, w.heap[k]? ≠ some (.cells cs 9 fz)) : some k ≠ v.ownBlock := by
  rcases h.2 with ⟨rfl, _⟩ | ⟨g, cap, cur, rfl, _, hg, _⟩
  · simp [Value.ownBlock]
  · intro e
    injection e with e
    subst e
    exact hk _ _ hg
theorem below_row {B : Nat} {w wr w' : World} {v : Value} {l : List Bs} (hb : Below B w wr) (hB : B ≤ wr.heap.size) (hr : RW B v l wr) (hg : wr.grownBy w' v.ownBlock) : Below B w w' := below_app hb hB hr hg
end Go.Proofs.YtglchiomdojjoaaGreatFmt
