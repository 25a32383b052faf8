/-
  A byte buffer that began as '[]byte(s)' (its row bears a mark behind its last cell) and is appended strings to; no program in sight (conditions: those that each lemma names).
-/
import Derived.Test.YtpjpdeecpobmlaaFmtStr
import Derived.Laws.IdiomStrings
import Derived.Laws.CopyRow
namespace Go.Proofs.YtpjpdeecpobmlaaFmt
open Go.RowKit

/-- A row of bytes whose mark lies behind its capacity. -/
def Marked (B : Nat) (e : TypeId) (v : Value) (l : List UInt8) (w : World) : Prop :=
  ∃ g cap cur fz, v = .slice (some ⟨g, 0, none⟩) l.length cap ∧ B ≤ g ∧ w.heap[g]? = some (.cells cur e fz) ∧ cap ≤ fz.1 ∧ l.length ≤ cap ∧ cap ≤ maxLen ∧ cur.size = cap ∧ cur.toList.take l.length = bc l
def BufM (B : Nat) (e : TypeId) (v : Value) (l : List UInt8) (W0 w : World) : Prop := (w.ownsRowF B e 1 v l.length (bc l) ∨ Marked B e v l w) ∧ Below B W0 w ∧ B ≤ w.heap.size
theorem BufM.below {B : Nat} {e : TypeId} {v : Value} {l : List UInt8} {W0 w : World} (h : BufM B e v l W0 w) : Below B W0 w := h.2.1

theorem free_mark {w : World} {g k : Nat} {cur : Array Value} {t : TypeId} {fz : Nat × Nat} (hg : w.heap[g]? = some (.cells cur t fz)) (hk : k < fz.1) : w.frozen? ⟨g, k, none⟩ = false := by
  obtain ⟨lo, hi⟩ := fz
  simp only [World.frozen?, hg, Bool.and_eq_false_iff, decide_eq_false_iff_not]
  left
  simp only at hk
  omega
theorem stores_mark (P : Program) (g : Nat) (t : TypeId) (fz : Nat × Nat) (o : Nat) : ∀ (vs : List Value) (i : Nat) (cur : Array Value) (w : World), w.heap[g]? = some (.cells cur t fz) → cur.size ≤ fz.1 → o + i + vs.length ≤ cur.size → (∀ v ∈ vs, v.oneCell' = true) →
    (storeCells ⟨g, o, none⟩ vs i).run P w = .ok () (w.setRow g (cur.toList.take (o + i) ++ vs ++ cur.toList.drop (o + i + vs.length)).toArray) := by
  intro vs
  induction vs with
  | nil =>
    intro i cur w hg _ _ _
    simp only [storeCells, List.append_nil, List.length_nil, Nat.add_zero, List.take_append_drop, Array.toArray_toList]
    rw [setRow_self w g cur t fz hg]
    rfl
  | cons v rest ih =>
    intro i cur w hg hfz hl h1
    rw [List.length_cons] at hl
    have hi : o + i < cur.size := by omega
    have ha : (⟨g, o, none⟩ : Addr).add i = ⟨g, o + i, none⟩ := by unfold Addr.add; split <;> simp_all
    have hst : (store ((⟨g, o, none⟩ : Addr).add i) v).run P w = .ok () (w.setRow g (cur.setIfInBounds (o + i) v)) := by
      rw [ha, run_store P w _ v _ (h1 v (by simp)), show w.cell? ⟨g, o + i, none⟩ = some cur[o + i] by simp [World.cell?, hg, hi]]
      simp [free_mark hg (show o + i < fz.1 by omega), setCell_eq_setRow w g (o + i) cur t fz v hg]
    have hn := ih (i + 1) (cur.setIfInBounds (o + i) v) (w.setRow g (cur.setIfInBounds (o + i) v)) (setRow_heap w g cur _ t _ hg) (by simpa using hfz) (by simp; omega) (fun x hx => h1 x (by simp [hx]))
    simp only [storeCells, Sem.run_bind, hst, Result.andThen_ok, hn, setRow_setRow]
    congr 3
    have e := list_seg_step cur.toList (o + i) v rest (by simp; omega)
    simpa [Array.toList_setIfInBounds, Nat.add_assoc] using e

section
variable {P : Program}
theorem append_mark (w : World) (base : Nat) (t u ty e : TypeId) (i : TypeInfo) (ht : P.underlying t = some (.slice e)) (hu : P.underlying u = some .string) (hi : P.info? e = some i) (hz : i.zero = some (.int .u8 0)) (hsize : i.size = 1) (hby : i.bytes = 1)
    (v : Value) (l : List UInt8) (h : Marked base e v l w) (s : ByteArray) (hlen : l.length + s.size ≤ 140737488355328) (hbase : base ≤ w.heap.size) :
    ∃ v' w', (Builtin.append_ #[t, u] ty #[v, .string s]).run P w = .ok v' w' ∧ (w'.ownsRowF base e 1 v' (l ++ s.data.toList).length (bc (l ++ s.data.toList)) ∨ Marked base e v' (l ++ s.data.toList) w') ∧ w.grownBy w' v.ownBlock := by
  obtain ⟨g, cap, cur, fz, rfl, hbg, hg, hfz, hlc, hcm, hcs, htk⟩ := h
  have hel : (l ++ s.data.toList).length = l.length + s.size := by rw [List.length_append, ← Lib.size_eq]
  have ebc : bc (l ++ s.data.toList) = bc l ++ Lib.strCells s := bc_append _ _
  by_cases hroom : l.length + s.size ≤ cap
  · have hf := Lib.run_firstCells_string (P := P) w 1 s
    have hst := stores_mark P g e fz l.length (Lib.strCells s) 0 cur w hg (by omega) (by rw [Lib.strCells_length]; omega) (Lib.strCells_oneCell s)
    simp only [Nat.add_zero, Lib.strCells_length] at hst
    have hr : (Builtin.append_ #[t, u] ty #[.slice (some ⟨g, 0, none⟩) l.length cap, .string s]).run P w = .ok (.slice (some ⟨g, 0, none⟩) (l.length + s.size) cap) (w.setRow g (cur.toList.take l.length ++ Lib.strCells s ++ cur.toList.drop (l.length + s.size)).toArray) := by
      simp [Builtin.append_, run_underlying ht, run_underlying hu, sizeOf, typeInfo, hi, hsize, Builtin.lenOf, hroom, hf, Addr.add_lit, hst]
    refine ⟨_, _, hr, .inr ⟨g, cap, _, fz, by rw [hel], hbg, setRow_heap w g cur _ e _ hg, hfz, by omega, hcm, ?_, ?_⟩, ⟨rfl, rfl, rfl, by simp, fun k _ hk => setRow_other w g k _ (fun x => hk (by simp [Value.ownBlock, x]))⟩⟩
    · simp only [List.size_toArray, List.length_append, List.length_take, List.length_drop, Array.length_toList, Lib.strCells_length]
      omega
    · have hl : (bc l ++ Lib.strCells s).length = (l ++ s.data.toList).length := by rw [List.length_append, bc_length, Lib.strCells_length, hel]
      rw [htk, ebc, ← hl]
      exact List.take_left
  · have holds : ∀ j x, (bc l)[j]? = some x → w.cell? ((⟨g, 0, none⟩ : Addr).add j) = some x := by
      intro j x hx
      have hj : j < l.length := by have := (List.getElem?_eq_some_iff.1 hx).1; rw [bc_length] at this; exact this
      have ha : (⟨g, 0, none⟩ : Addr).add j = ⟨g, j, none⟩ := by unfold Addr.add; split <;> simp_all
      rw [ha, cell_of_row w g j cur e fz hg, ← hx, ← htk, List.getElem?_take_of_lt hj, Array.getElem?_toList]
    have hr := Lib.run_append_grow_string (P := P) w t u ty e i (.int .u8 0) ht hu hi hz ⟨g, 0, none⟩ l.length cap (bc l) (by rw [hsize, bc_length]; omega) holds s (by omega) (by omega) (by rw [hby]; exact growslice_fits (by omega) (by omega))
    have hge := grownCap_ge w (l.length + s.size) cap e
    have hcm2 : grownCap w (l.length + s.size) cap e ≤ maxLen := grownCap_le_maxLen w (l.length + s.size) cap e (by unfold maxLen; omega)
    refine ⟨_, _, hr, .inl ⟨by rw [bc_length, Nat.mul_one], .inr ⟨w.heap.size, _, _, (0, 0), by rw [hel], hbase, heap_alloc_new w.drew _, Nat.zero_le _, by rw [hel]; exact hge, hcm2, ?_, ?_⟩⟩, ⟨rfl, rfl, rfl, by simp, fun k hk _ => Below.heap_alloc w.drew _ k hk⟩⟩
    · have hz1 : (Value.int IntKind.u8 0).cells.size = 1 := rfl
      simp only [Array.size_append, List.size_toArray, size_zeroCells, hz1, bc_length, Lib.strCells_length]
      omega
    · have hl : (bc l ++ Lib.strCells s).length = (l ++ s.data.toList).length * 1 := by rw [List.length_append, bc_length, Lib.strCells_length, hel, Nat.mul_one]
      simp only [Array.toList_append, List.append_assoc]
      rw [← List.append_assoc, ← hl, ebc]
      exact List.take_left

theorem bufM_text {ops : Array Oper} {rest : List Oper} {o : Oper} {a : Act} {Q : Exit → Act → World → Prop} {w : World} (hgd : o.guard = none) (sl x : Operand) (t u : TypeId)
    (ho : o.op = .call { callee := .builtin .append, args := #[sl, x], argTypes := #[t, u] })
    (B : Nat) (e : TypeId) (i : TypeInfo) (ht : P.underlying t = some (.slice e)) (hu : P.underlying u = some .string) (hi : P.info? e = some i) (hz : i.zero = some (.int .u8 0)) (hsize : i.size = 1) (hby : i.bytes = 1)
    (v : Value) (l : List UInt8) (hs : a.eval sl = v) (W0 : World) (hb : BufM B e v l W0 w) (s : ByteArray) (hx : a.eval x = .string s) (hlen : l.length + s.size ≤ 140737488355328)
    (h : ∀ v' w', BufM B e v' (l ++ s.data.toList) W0 w' → wpList P ops Q rest (a.put o.dst v') w') : wpList P ops Q (o :: rest) a w := by
  obtain ⟨hrow, hbl, hBw⟩ := hb
  refine wpList_plain hgd fun K hK => ?_
  obtain ⟨v', w', hr, h2, h3, hlt⟩ : ∃ v' w', (Builtin.append_ #[t, u] o.type #[v, .string s]).run P w = .ok v' w' ∧ (w'.ownsRowF B e 1 v' (l ++ s.data.toList).length (bc (l ++ s.data.toList)) ∨ Marked B e v' (l ++ s.data.toList) w') ∧ w.grownBy w' v.ownBlock ∧ ∀ k, v.ownBlock = some k → B ≤ k := by
    rcases hrow with hrow | hrow
    · obtain ⟨v', w', hr, h2, h3, _⟩ := Lib.run_append_own_stringF (P := P) w B t u o.type e i ht hu hi hz hsize hby v l.length (bc l) hrow s (by unfold maxLen; omega) hlen hBw
      refine ⟨v', w', hr, .inl ?_, h3, fun k hk => (hrow.lt k hk).1⟩
      rw [bc_append, List.length_append, ← Lib.size_eq]
      exact h2
    · obtain ⟨v', w', hr, h2, h3⟩ := append_mark (P := P) w B t u o.type e i ht hu hi hz hsize hby v l hrow s hlen hBw
      refine ⟨v', w', hr, h2, h3, fun k hk => ?_⟩
      obtain ⟨g, cap, cur, fz, rfl, hbg, _⟩ := hrow
      simp [Value.ownBlock] at hk
      omega
  unfold Oper.wp execOp
  simp only [ho, resolve, invoke, builtin, Sem.run_bind, Sem.run_pure, Result.andThen_ok, List.map_toArray, List.map_cons, List.map_nil, hs, hx, hr]
  exact hK _ _ (h v' w' ⟨h2, hbl.grown h3 hBw hlt, Nat.le_trans hBw h3.size⟩)

/-- 'string(b)'. -/
theorem BufM.convert {B : Nat} {e : TypeId} {v : Value} {l : List UInt8} {W0 w : World} (h : BufM B e v l W0 w) (src dst : TypeId) (hs : P.underlying src = some (.slice e)) (he : P.underlying e = some (.int .u8)) (hd : P.underlying dst = some .string) :
    (convert src dst v).run P w = .ok (.string (S l)) w := by
  rcases h.1 with hr | ⟨g, cap, cur, fz, rfl, hbg, hg, hfz, hlc, hcm, hcs, htk⟩
  · exact Buf.convert (B := B) (W0 := W0) ⟨hr, h.2⟩ src dst hs he hd
  · exact run_convert_bytes_back w src dst e ⟨g, 0, none⟩ cap l hs he hd (Lib.bytes_of_row hg htk)

/-- '[]byte(s)': what it makes. -/
theorem BufM.made (w : World) (e : TypeId) (s : ByteArray) (h : s.size ≤ maxLen) :
    BufM w.heap.size e (.slice (some ⟨w.heap.size, 0, none⟩) s.size (grownCap w s.size 0 e)) s.data.toList w (w.drew.alloc (.cells (bytesRow s (grownCap w s.size 0 e)) e ((bytesRow s (grownCap w s.size 0 e)).size, (bytesRow s (grownCap w s.size 0 e)).size + 1))) := by
  have hge := grownCap_ge w s.size 0 e
  have hlm := grownCap_le_maxLen w s.size 0 e h
  have hsz : (bytesRow s (grownCap w s.size 0 e)).size = grownCap w s.size 0 e := by
    unfold bytesRow
    rw [Array.size_append, Array.size_map, Array.size_replicate]
    have : s.data.size = s.size := rfl
    omega
  refine ⟨.inr ⟨w.heap.size, _, _, _, by rw [← Lib.size_eq], Nat.le_refl _, heap_alloc_new w.drew _, by rw [hsz]; exact Nat.le_refl _, by rw [← Lib.size_eq]; exact hge, hlm, hsz, ?_⟩, ⟨rfl, rfl, rfl, by simp, fun k hk => Below.heap_alloc w.drew _ k hk⟩, by simp⟩
  unfold bytesRow
  rw [Array.toList_append, ← Lib.size_eq, List.take_append_of_le_length (by simp)]
  rw [List.take_of_length_le (by simp)]
  simp [bc]
end

end Go.Proofs.YtpjpdeecpobmlaaFmt
