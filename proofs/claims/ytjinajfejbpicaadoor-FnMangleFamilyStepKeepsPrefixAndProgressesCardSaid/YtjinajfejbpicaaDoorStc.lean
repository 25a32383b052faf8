/-
  Parts of rows of tokens, and a copy into a longer row; conditions: those that each names.
-/
import Derived.Test.YtjinajfejbpicaaDoorZst
namespace Go.Proofs.YtjinajfejbpicaaDoor
open Go.RowKit

theorem TokIn.take {w : World} {g o len cap : Nat} {ts : List Tok} (h : TokIn w (some ⟨g, o, none⟩) len cap ts) (k c : Nat) (hk : k ≤ len) (hc : k ≤ c) (hm : c ≤ maxLen) : TokIn w (some ⟨g, o, none⟩) k c (ts.take k) := by
  obtain ⟨h1, h2, h3, h4⟩ := h
  refine ⟨by rw [List.length_take]; omega, hc, hm, ?_⟩
  rcases h4 with rfl | ⟨g', o', e, h5⟩
  · exact .inl (by simp)
  · cases e
    refine .inr ⟨g, o, rfl, fun i t hi j u hu => h5 i t ?_ j u hu⟩
    rw [List.getElem?_take] at hi
    split at hi
    · exact hi
    · cases hi
theorem TokIn.drop {w : World} {g o len cap : Nat} {ts : List Tok} (h : TokIn w (some ⟨g, o, none⟩) len cap ts) (k : Nat) (hk : k ≤ len) (b : Option Addr) (hb : k < len → b = some ⟨g, o + k * 7, none⟩) : TokIn w b (len - k) (cap - k) (ts.drop k) := by
  obtain ⟨h1, h2, h3, h4⟩ := h
  refine ⟨by rw [List.length_drop]; omega, by omega, by omega, ?_⟩
  by_cases hlt : k < len
  · rcases h4 with rfl | ⟨g', o', e, h5⟩
    · simp at h1
      omega
    · cases e
      refine .inr ⟨g, o + k * 7, hb hlt, fun i t hi j u hu => ?_⟩
      rw [List.getElem?_drop] at hi
      have := h5 (k + i) t hi j u hu
      rwa [show o + ((k + i) * 7 + j) = o + k * 7 + (i * 7 + j) by omega] at this
  · exact .inl (List.drop_of_length_le (by omega))
theorem TokIn.at' {w : World} {a : Option Addr} {len cap : Nat} {ts : List Tok} (h : TokIn w a len cap ts) (hp : 0 < len) : ∃ g o, a = some ⟨g, o, none⟩ := by
  obtain ⟨h1, h2, h3, h4⟩ := h
  rcases h4 with rfl | ⟨g', o', e, h5⟩
  · simp at h1
    omega
  · exact ⟨g', o', e⟩
theorem step_ne {mw : Bool} {ts o r : List Tok} (h : step V G mw ts = some (o, r)) : o ≠ [] := by
  cases ts with
  | nil => cases h
  | cons t s =>
    rw [step] at h
    split at h
    · cases h
      simp
    · split at h
      · cases h
        exact expand_ne _
      · split at h
        · split at h
          · next hk _ =>
            cases h
            rw [List.takeWhile_cons, decide_eq_true hk, if_pos rfl]
            simp
          · cases h
        · cases h
theorem run_copy_wide2 {P : Program} (w : World) (dT sT ty elem : TypeId) (g dLen dCap : Nat) (a : Addr) (sLen sCap : Nat) (cur : Array Value) (t : TypeId) (cs : List Value) (size n : Nat)
    (hu : P.underlying dT = some (.slice elem)) (hs : (P.info? elem).map (·.size) = some size)
    (hg : w.heap[g]? = some (.cells cur t (0, 0))) (hn : Nat.min sLen dLen = n) (hc : cs.length = n * size)
    (hsrc : ∀ j v, cs[j]? = some v → w.cell? (a.add j) = some v) (hfit : cs.length ≤ cur.size) (h1 : ∀ v ∈ cs, v.oneCell' = true) :
    (Builtin.copy_ #[dT, sT] ty #[.slice (some ⟨g, 0, none⟩) dLen dCap, .slice (some a) sLen sCap]).run P w = .ok (goInt n) (w.setRow g (cs ++ cur.toList.drop cs.length).toArray) := by
  have hl := run_loadCells_list (P := P) w a cs hsrc
  have hst := run_storeCells_at P g 0 t cs 0 cur w hg (by omega) h1
  have e : (cur.toList.take (0 + 0) ++ cs ++ cur.toList.drop (0 + 0 + cs.length)) = cs ++ cur.toList.drop cs.length := by
    simp
  rw [e] at hst
  rw [hc] at hl
  cases hq : P.info? elem with
  | none => simp [hq] at hs
  | some i =>
    have hi : i.size = size := by simpa [hq] using hs
    simp [Builtin.copy_, run_underlying hu, Builtin.lenOf, Builtin.firstCells, sizeOf, typeInfo, hq, hi, hn, hl, hst]
/-- The prefix: its tokens, and room behind them. -/
theorem prefix_made {w : World} {c : Nat} {ts : List Tok} {H : Nat} (cur : Array Value) (hH : w.heap.size = H) (hl : ts.length = c) (hc : c ≤ 8388608) (hs : cur.size = (c + 8) * 7) :
    ((w.alloc (.cells cur 48)).setRow H (flat ts ++ cur.toList.drop (flat ts).length).toArray).ownsRow H 48 7 (.slice (some ⟨H, 0, none⟩) c (c + 8)) c (flat ts) ∧ Below H w ((w.alloc (.cells cur 48)).setRow H (flat ts ++ cur.toList.drop (flat ts).length).toArray) := by
  subst hH
  have hg : (w.alloc (.cells cur 48)).heap[w.heap.size]? = some (.cells cur 48 (0, 0)) := heap_alloc_new w _
  have hrow := setRow_heap (w.alloc (.cells cur 48)) w.heap.size cur (flat ts ++ cur.toList.drop (flat ts).length).toArray 48 _ hg
  refine ⟨⟨by rw [flat_len, hl], .inr ⟨w.heap.size, c + 8, _, rfl, Nat.le_refl _, hrow, by omega, by unfold maxLen; omega, ?_, ?_⟩⟩, below_setRow ((Below.refl _ _).alloc (Nat.le_refl _) _) (Nat.le_refl _) _⟩
  · simp [flat_len, hl, hs]
    omega
  · rw [List.toList_toArray, ← hl, ← flat_len, List.take_left]
end Go.Proofs.YtjinajfejbpicaaDoor
