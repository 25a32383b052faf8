/-
  What stands in memory while validateExternals runs, and what each step leaves of it; conditions: those that each names.
-/
import Derived.Test.YtkdkjcljdagakaaGreatFmtVal
namespace Go.Proofs.YtkdkjcljdagakaaGreatFmt
open Go.RowKit Go.Maps

abbrev MapB (b n : Nat) (D : DataW Unit) (w : World) : Prop := w.ownsMap Tryz.prog 9 (plainElem Tryz.prog 4) b n D
/-- The log, its box at S, the result's variable at S + 1, the two sets at S + 2 and S + 3, the settings at S + 4, the two rows of patterns. -/
structure EX (B bk bm bu bh S : Nat) (he : Bool) (nm k1 k2 : Nat) (D1 D2 : DataW Unit) (v1 : Value) (n1 : Nat) (xs1 : List Value) (v2 : Value) (n2 : Nat) (xs2 : List Value) (w : World) : Prop where
  lg : LogAt B bk bm bu bh he nm w
  bx : BoxAt bk bu bh bm S w
  rs : w.heap[S + 1]? = some (.cells #[.map none, .slice none 0 0, .map none, .slice none 0 0] 36 (0, 0))
  st : w.heap[S + 4]? = some (.cells #[.map (some (S + 2)), v1, .map (some (S + 3)), v2] 36 (0, 0))
  m1 : MapB (S + 2) k1 D1 w
  m2 : MapB (S + 3) k2 D2 w
  r1 : w.ownsRow (S + 5) 43 2 v1 n1 xs1
  r2 : w.ownsRow (S + 5) 43 2 v2 n2 xs2
  sep : v1.ownBlock = none ∨ v1.ownBlock ≠ v2.ownBlock
theorem EX.kept {B bk bm bu bh S nm k1 k2 n1 n2 : Nat} {he : Bool} {D1 D2 : DataW Unit} {v1 v2 : Value} {xs1 xs2 : List Value} {w w' : World} (h : EX B bk bm bu bh S he nm k1 k2 D1 D2 v1 n1 xs1 v2 n2 xs2 w) (k : w.grownBy w' none) : EX B bk bm bu bh S he nm k1 k2 D1 D2 v1 n1 xs1 v2 n2 xs2 w' := by
  have up : ∀ {b : Nat} {o : Obj}, w.heap[b]? = some o → w'.heap[b]? = some o := fun hb => (k.block _ (Array.getElem?_eq_some_iff.1 hb).1 (by simp)).trans hb
  exact ⟨h.lg.grown k (by simp), up h.bx, up h.rs, up h.st, h.m1.kept k (by simp), h.m2.kept k (by simp), h.r1.kept k (Classical.em _), h.r2.kept k (Classical.em _), h.sep⟩
theorem grown_of_below {w w' : World} (h : Below w.heap.size w w') : w.grownBy w' none := ⟨h.os, h.tape, h.output, h.size, fun k hk _ => h.block k hk⟩
theorem EX.below {B bk bm bu bh S nm k1 k2 n1 n2 : Nat} {he : Bool} {D1 D2 : DataW Unit} {v1 v2 : Value} {xs1 xs2 : List Value} {w w' : World} (h : EX B bk bm bu bh S he nm k1 k2 D1 D2 v1 n1 xs1 v2 n2 xs2 w) (k : Below w.heap.size w w') : EX B bk bm bu bh S he nm k1 k2 D1 D2 v1 n1 xs1 v2 n2 xs2 w' := h.kept (grown_of_below k)
theorem row_lk {B bk bm bu bh nm n : Nat} {he : Bool} {b : Nat} {v : Value} {xs : List Value} {w w' : World} (hl : LogAt B bk bm bu bh he nm w) (k : LK B bm bu bh w w') (h : w.ownsRow b 43 2 v n xs) : w'.ownsRow b 43 2 v n xs := by
  refine ⟨h.1, ?_⟩
  rcases h.2 with hn | ⟨g, cap, cur, rfl, hb, hg, rest⟩
  · exact .inl hn
  · exact .inr ⟨g, cap, cur, rfl, hb, k.cells hl hg (by decide) (by decide) (by decide) (by decide), rest⟩
theorem EX.err {B bk bm bu bh S nm nm' k1 k2 n1 n2 : Nat} {he he' : Bool} {D1 D2 : DataW Unit} {v1 v2 : Value} {xs1 xs2 : List Value} {w w' : World} (h : EX B bk bm bu bh S he nm k1 k2 D1 D2 v1 n1 xs1 v2 n2 xs2 w) (k : LK B bm bu bh w w') (hl : LogAt B bk bm bu bh he' nm' w') : EX B bk bm bu bh S he' nm' k1 k2 D1 D2 v1 n1 xs1 v2 n2 xs2 w' :=
  ⟨hl, k.cells h.lg h.bx (by decide) (by decide) (by decide) (by decide), k.cells h.lg h.rs (by decide) (by decide) (by decide) (by decide), k.cells h.lg h.st (by decide) (by decide) (by decide) (by decide), k.map h.lg h.m1, k.map h.lg h.m2, row_lk h.lg k h.r1, row_lk h.lg k h.r2, h.sep⟩
theorem row_not_map {b n : Nat} {v : Value} {xs : List Value} {w : World} (h : w.ownsRow b 43 2 v n xs) {j : Nat} (hj : ∀ cs t fz, w.heap[j]? ≠ some (.cells cs t fz)) : v.ownBlock = none ∨ v.ownBlock ≠ some j := by
  rcases h.2 with ⟨rfl, _⟩ | ⟨g, cap, cur, rfl, hb, hg, rest⟩
  · exact .inl rfl
  · exact .inr fun e => by
      have : g = j := by simpa [Value.ownBlock] using e
      subst this
      exact hj _ _ _ hg
theorem EX.put1 {B bk bm bu bh S nm k1 k2 n1 n2 : Nat} {he : Bool} {D1 D2 D1' : DataW Unit} {v1 v2 : Value} {xs1 xs2 : List Value} {w w' : World} (h : EX B bk bm bu bh S he nm k1 k2 D1 D2 v1 n1 xs1 v2 n2 xs2 w) (k : w.grownBy w' (some (S + 2))) (hm : MapB (S + 2) (k1 + 1) D1' w') : EX B bk bm bu bh S he nm (k1 + 1) k2 D1' D2 v1 n1 xs1 v2 n2 xs2 w' := by
  have hc := map_cells h.m1
  have up : ∀ {b : Nat} {cs : Array Value} {t : TypeId}, w.heap[b]? = some (.cells cs t (0, 0)) → w'.heap[b]? = some (.cells cs t (0, 0)) := fun hb => by
    rw [k.block _ (Array.getElem?_eq_some_iff.1 hb).1 (fun e => by cases e; exact hc _ _ _ hb), hb]
  exact ⟨h.lg.grown k (fun j hj => by cases hj; exact hc), up h.bx, up h.rs, up h.st, hm, h.m2.kept k (by simp), h.r1.kept k (row_not_map h.r1 hc), h.r2.kept k (row_not_map h.r2 hc), h.sep⟩
theorem EX.put2 {B bk bm bu bh S nm k1 k2 n1 n2 : Nat} {he : Bool} {D1 D2 D2' : DataW Unit} {v1 v2 : Value} {xs1 xs2 : List Value} {w w' : World} (h : EX B bk bm bu bh S he nm k1 k2 D1 D2 v1 n1 xs1 v2 n2 xs2 w) (k : w.grownBy w' (some (S + 3))) (hm : MapB (S + 3) (k2 + 1) D2' w') : EX B bk bm bu bh S he nm k1 (k2 + 1) D1 D2' v1 n1 xs1 v2 n2 xs2 w' := by
  have hc := map_cells h.m2
  have up : ∀ {b : Nat} {cs : Array Value} {t : TypeId}, w.heap[b]? = some (.cells cs t (0, 0)) → w'.heap[b]? = some (.cells cs t (0, 0)) := fun hb => by
    rw [k.block _ (Array.getElem?_eq_some_iff.1 hb).1 (fun e => by cases e; exact hc _ _ _ hb), hb]
  exact ⟨h.lg.grown k (fun j hj => by cases hj; exact hc), up h.bx, up h.rs, up h.st, h.m1.kept k (by simp), hm, h.r1.kept k (row_not_map h.r1 hc), h.r2.kept k (row_not_map h.r2 hc), h.sep⟩

/-- A row's own block is none of another type. -/
theorem own43 {b n : Nat} {v : Value} {xs : List Value} {w : World} (h : w.ownsRow b 43 2 v n xs) {j : Nat} {cs : Array Value} {t : TypeId} {fz : Nat × Nat} (hj : w.heap[j]? = some (.cells cs t fz)) (ht : t ≠ 43) : some j ≠ v.ownBlock := by
  rcases h.2 with ⟨rfl, _⟩ | ⟨g, cap, cur, rfl, hb, hg, rest⟩
  · simp [Value.ownBlock]
  · intro e
    have : j = g := by simpa [Value.ownBlock] using e
    subst this
    rw [hj] at hg
    cases hg
    exact ht rfl
theorem own_set43 {b n c i : Nat} {w : World} {v : Value} {xs : List Value} {t : TypeId} {cs : Array Value} (h : w.ownsRow b 43 2 v n xs) (hb : w.heap[c]? = some (.cells cs t (0, 0))) (hne : t ≠ 43) (u : Value) : (w.setCell ⟨c, i, none⟩ u).ownsRow b 43 2 v n xs := by
  refine ⟨h.1, ?_⟩
  rcases h.2 with h | ⟨g, cap, cur, hv, hbase, hg, rest⟩
  · exact .inl h
  · refine .inr ⟨g, cap, cur, hv, hbase, ?_, rest⟩
    rw [setf (by rintro rfl; rw [hb] at hg; cases hg; exact hne rfl)]
    exact hg
theorem own_ne {b n : Nat} {v : Value} {xs : List Value} {w : World} (h : w.ownsRow b 43 2 v n xs) : v.ownBlock = none ∨ ∃ g, v.ownBlock = some g ∧ g < w.heap.size := by
  rcases h.2 with ⟨rfl, _⟩ | ⟨g, cap, cur, rfl, hb, hg, rest⟩
  · exact .inl rfl
  · exact .inr ⟨g, rfl, (Array.getElem?_eq_some_iff.1 hg).1⟩
theorem map_set {P : Program} {k : TypeId} {R : Value → Option (DataW Unit × List MemPlace)} {b n c i : Nat} {D : DataW Unit} {w : World} (h : w.ownsMap P k R b n D) {cs : Array Value} {t : TypeId} (hc : w.heap[c]? = some (.cells cs t (0, 0))) (u : Value) : (w.setCell ⟨c, i, none⟩ u).ownsMap P k R b n D := by
  have hn := map_cells h
  obtain ⟨es, clock, hb, F, hs, hD⟩ := h
  exact ⟨es, clock, by rw [setf (by rintro rfl; exact hn _ _ _ hc)]; exact hb, F, hs, hD⟩
theorem LogAt.setOther {B bk bm bu bh n c i : Nat} {he : Bool} {w : World} (h : LogAt B bk bm bu bh he n w) {cs : Array Value} (hc : w.heap[c]? = some (.cells cs 36 (0, 0))) (u : Value) : LogAt B bk bm bu bh he n (w.setCell ⟨c, i, none⟩ u) := by
  obtain ⟨n1, n2, n3⟩ := h.not_type hc (by decide) (by decide) (by decide)
  obtain ⟨h1, h2, h3, v, xs, h4, h5⟩ := h
  refine ⟨?_, ?_, ?_, v, xs, ?_, own_set h5 hc (by decide) u⟩
  · rw [setf (by rintro rfl; rw [hc] at h1; cases h1)]; exact h1
  · rw [setf n2.symm]; exact h2
  · rw [setf n3.symm]; exact h3
  · rw [setf n1.symm]; exact h4
/-- A pattern is appended to the first row, and the settings' cell set. -/
theorem EX.app1 {B bk bm bu bh S nm k1 k2 n1 n2 : Nat} {he : Bool} {D1 D2 : DataW Unit} {v1 v2 v1' : Value} {xs1 xs2 xs1' : List Value} {w w' : World} (h : EX B bk bm bu bh S he nm k1 k2 D1 D2 v1 n1 xs1 v2 n2 xs2 w) (k : w.grownBy w' v1.ownBlock) (hm : w'.ownsRow (S + 5) 43 2 v1' (n1 + 1) xs1') (hat : v1'.ownBlock = v1.ownBlock ∨ ∀ g, v1'.ownBlock = some g → w.heap.size ≤ g) :
    EX B bk bm bu bh S he nm k1 k2 D1 D2 v1' (n1 + 1) xs1' v2 n2 xs2 (w'.setCell ⟨S + 4, 1, none⟩ v1') := by
  have up : ∀ {b : Nat} {cs : Array Value} {t : TypeId}, t ≠ 43 → w.heap[b]? = some (.cells cs t (0, 0)) → w'.heap[b]? = some (.cells cs t (0, 0)) := fun ht hb => by
    rw [k.block _ (Array.getElem?_eq_some_iff.1 hb).1 (own43 h.r1 hb ht), hb]
  have hst := up (by decide) h.st
  have hlg : LogAt B bk bm bu bh he nm w' := by
    obtain ⟨h1, h2, h3, v, xs, h4, h5⟩ := h.lg
    refine ⟨up (by decide) h1, up (by decide) h2, up (by decide) h3, v, xs, up (by decide) h4, h5.kept k ?_⟩
    rcases h5.2 with ⟨rfl, _⟩ | ⟨g, cap, cur, rfl, _, hg, _⟩
    · exact .inl rfl
    · exact .inr (own43 h.r1 hg (by decide))
  have hsep : v2.ownBlock = none ∨ v2.ownBlock ≠ v1.ownBlock := by
    rcases h.sep with hs | hs
    · rcases h2 : v2.ownBlock with _ | g
      · exact .inl rfl
      · exact .inr (by rw [hs]; simp)
    · exact .inr hs.symm
  have hm1 := h.m1.kept k (fun e => by
    rcases h.r1.2 with ⟨rfl, _⟩ | ⟨g, cap, cur, rfl, _, hg, _⟩
    · cases e
    · have : S + 2 = g := by simpa [Value.ownBlock] using e
      rw [← this] at hg
      exact map_cells h.m1 _ _ _ hg)
  have hm2 := h.m2.kept k (fun e => by
    rcases h.r1.2 with ⟨rfl, _⟩ | ⟨g, cap, cur, rfl, _, hg, _⟩
    · cases e
    · have : S + 3 = g := by simpa [Value.ownBlock] using e
      rw [← this] at hg
      exact map_cells h.m2 _ _ _ hg)
  have hr2 := h.r2.kept k hsep
  refine ⟨hlg.setOther hst _, ?_, ?_, setc hst (i := 1) v1', map_set hm1 hst _, map_set hm2 hst _, own_set43 hm hst (by decide) _, own_set43 hr2 hst (by decide) _, ?_⟩
  · exact (setf (c := S) (b := S + 4) (by omega) _).trans (up (by decide) h.bx)
  · exact (setf (c := S + 1) (b := S + 4) (by omega) _).trans (up (by decide) h.rs)
  · rcases hat with hat | hat
    · rw [hat]; exact h.sep
    · rcases h1 : v1'.ownBlock with _ | g
      · exact .inl rfl
      · right
        intro e
        rcases own_ne h.r2 with h2 | ⟨g2, h2, h3⟩
        · rw [h2] at e; cases e
        · rw [h2] at e
          have := hat g h1
          cases e
          omega
theorem EX.app2 {B bk bm bu bh S nm k1 k2 n1 n2 : Nat} {he : Bool} {D1 D2 : DataW Unit} {v1 v2 v2' : Value} {xs1 xs2 xs2' : List Value} {w w' : World} (h : EX B bk bm bu bh S he nm k1 k2 D1 D2 v1 n1 xs1 v2 n2 xs2 w) (k : w.grownBy w' v2.ownBlock) (hm : w'.ownsRow (S + 5) 43 2 v2' (n2 + 1) xs2') (hat : v2'.ownBlock = v2.ownBlock ∨ ∀ g, v2'.ownBlock = some g → w.heap.size ≤ g) :
    EX B bk bm bu bh S he nm k1 k2 D1 D2 v1 n1 xs1 v2' (n2 + 1) xs2' (w'.setCell ⟨S + 4, 3, none⟩ v2') := by
  have up : ∀ {b : Nat} {cs : Array Value} {t : TypeId}, t ≠ 43 → w.heap[b]? = some (.cells cs t (0, 0)) → w'.heap[b]? = some (.cells cs t (0, 0)) := fun ht hb => by
    rw [k.block _ (Array.getElem?_eq_some_iff.1 hb).1 (own43 h.r2 hb ht), hb]
  have hst := up (by decide) h.st
  have hlg : LogAt B bk bm bu bh he nm w' := by
    obtain ⟨h1, h2, h3, v, xs, h4, h5⟩ := h.lg
    refine ⟨up (by decide) h1, up (by decide) h2, up (by decide) h3, v, xs, up (by decide) h4, h5.kept k ?_⟩
    rcases h5.2 with ⟨rfl, _⟩ | ⟨g, cap, cur, rfl, _, hg, _⟩
    · exact .inl rfl
    · exact .inr (own43 h.r2 hg (by decide))
  have hm1 := h.m1.kept k (fun e => by
    rcases h.r2.2 with ⟨rfl, _⟩ | ⟨g, cap, cur, rfl, _, hg, _⟩
    · cases e
    · have : S + 2 = g := by simpa [Value.ownBlock] using e
      rw [← this] at hg
      exact map_cells h.m1 _ _ _ hg)
  have hm2 := h.m2.kept k (fun e => by
    rcases h.r2.2 with ⟨rfl, _⟩ | ⟨g, cap, cur, rfl, _, hg, _⟩
    · cases e
    · have : S + 3 = g := by simpa [Value.ownBlock] using e
      rw [← this] at hg
      exact map_cells h.m2 _ _ _ hg)
  have hr1 := h.r1.kept k h.sep
  refine ⟨hlg.setOther hst _, ?_, ?_, setc hst (i := 3) v2', map_set hm1 hst _, map_set hm2 hst _, own_set43 hr1 hst (by decide) _, own_set43 hm hst (by decide) _, ?_⟩
  · exact (setf (c := S) (b := S + 4) (by omega) _).trans (up (by decide) h.bx)
  · exact (setf (c := S + 1) (b := S + 4) (by omega) _).trans (up (by decide) h.rs)
  · rcases hat with hat | hat
    · rw [hat]; exact h.sep
    · rcases own_ne h.r1 with h1 | ⟨g1, h1, h3⟩
      · exact .inl h1
      · right
        rw [h1]
        intro e
        have := hat g1 e.symm
        omega
end Go.Proofs.YtkdkjcljdagakaaGreatFmt
