/-
  The handler's lock and its two fields that change; what else stands; the names a map's range has seen (conditions: those that each lemma names).
-/
import Derived.Test.YtglchiomdojjoaaGreatFmtDfj
import Derived.Test.YtglchiomdojjoaaGreatFmtUrl
import Derived.Test.YtglchiomdojjoaaGreatFmtLocks
import Derived.Conc.MuLone
namespace Go.Proofs.YtglchiomdojjoaaGreatFmt
open Go.RowKit Go.Maps Go.Lib Go.WideMaps Go.Conc Go.Conc.Locks

theorem setc {w : World} {b i : Nat} {cs : Array Value} {t : TypeId} {fz : Nat × Nat} (h : w.heap[b]? = some (.cells cs t fz)) (v : Value) : (w.setCell ⟨b, i, none⟩ v).heap[b]? = some (.cells (cs.setIfInBounds i v) t fz) := by
  simp [World.setCell, Array.getElem?_modify, h]
theorem setf {w : World} {b c i : Nat} (h : c ≠ b) (v : Value) : (w.setCell ⟨b, i, none⟩ v).heap[c]? = w.heap[c]? := Below.heap_setCell w ⟨b, i, none⟩ v c h
/-- The lock holds x. -/
def Lk (x : Int) (n : Nat) (w : World) : Prop := ∃ cs, w.heap[n + 2]? = some (.cells cs 70 (0, 0)) ∧ cs[17]? = some (.int .i32 x)
theorem Lk.keep {x : Int} {n : Nat} {w w' : World} (h : Lk x n w) (k : w'.heap[n + 2]? = w.heap[n + 2]?) : Lk x n w' := by
  obtain ⟨cs, a, b⟩ := h
  exact ⟨cs, k.trans a, b⟩
theorem Lk.up {x : Int} {n : Nat} {w w' : World} (h : Lk x n w) (k : Below w.heap.size w w') : Lk x n w' := by
  obtain ⟨cs, a, b⟩ := h
  exact ⟨cs, (k.block _ (Array.getElem?_eq_some_iff.1 a).1).trans a, b⟩
theorem Lk.cell {x : Int} {n : Nat} {w : World} (h : Lk x n w) : w.cell? ⟨n + 2, 17, none⟩ = some (.int .i32 x) ∧ w.frozen? ⟨n + 2, 17, none⟩ = false := by
  obtain ⟨cs, a, b⟩ := h
  exact ⟨by rw [cell_of_row w _ _ cs 70 (0, 0) a]; exact b, Lib.frozen_of_heap a 17⟩
theorem Lk.set {x : Int} {n : Nat} {w : World} (h : Lk x n w) (y : Int) : Lk y n (w.setCell ⟨n + 2, 17, none⟩ (.int .i32 y)) := by
  obtain ⟨cs, a, b⟩ := h
  refine ⟨_, setc a _, ?_⟩
  rw [Array.getElem?_setIfInBounds, if_pos rfl, if_pos (Array.getElem?_eq_some_iff.1 b).1]
theorem Lk.set16 {x : Int} {n : Nat} {w : World} (h : Lk x n w) (v : Value) : Lk x n (w.setCell ⟨n + 2, 16, none⟩ v) := by
  obtain ⟨cs, a, b⟩ := h
  refine ⟨_, setc a _, ?_⟩
  rw [Array.getElem?_setIfInBounds, if_neg (by decide)]
  exact b
theorem HA.set17 {n m : Nat} {pub : ByteArray} {buf : Array Value} {w : World} (h : HA n pub m buf w) (y : Int) : HA n pub m buf (w.setCell ⟨n + 2, 17, none⟩ (.int .i32 y)) := by
  obtain ⟨⟨cs, a, b, c4, c5, c6, c15, c16, ⟨x, c17⟩, c18⟩, r, s, t, d⟩ := h
  refine ⟨⟨_, setc a _, by simpa using b, ?_, ?_, ?_, ?_, ?_, ⟨y, ?_⟩, ?_⟩, by rw [setf (by omega)]; exact r, s, t, by rw [setf (by omega)]; exact d⟩
  all_goals (rw [Array.getElem?_setIfInBounds]; first | (rw [if_neg (by decide)]; assumption) | (rw [if_pos rfl, if_pos (by omega)]))
theorem HA.set16 {n m : Nat} {pub : ByteArray} {buf : Array Value} {w : World} (h : HA n pub m buf w) (m2 : Nat) : HA n pub m2 buf (w.setCell ⟨n + 2, 16, none⟩ (.map (some m2))) := by
  obtain ⟨⟨cs, a, b, c4, c5, c6, c15, c16, ⟨x, c17⟩, c18⟩, r, s, t, d⟩ := h
  refine ⟨⟨_, setc a _, by simpa using b, ?_, ?_, ?_, ?_, ?_, ⟨x, ?_⟩, ?_⟩, by rw [setf (by omega)]; exact r, s, t, by rw [setf (by omega)]; exact d⟩
  all_goals (rw [Array.getElem?_setIfInBounds]; first | (rw [if_neg (by decide)]; assumption) | (rw [if_pos rfl, if_pos (by omega)]))
theorem HA.frozen {n m : Nat} {pub : ByteArray} {buf : Array Value} {w : World} (h : HA n pub m buf w) (i : Nat) : w.frozen? ⟨n + 2, i, none⟩ = false := by
  obtain ⟨⟨cs, a, _⟩, _⟩ := h
  exact Lib.frozen_of_heap a i
/-- All blocks stand but the channel and the handler. -/
structure Bk (n : Nat) (w w' : World) : Prop where
  os : w'.os = w.os
  tape : w'.tape = w.tape
  output : w'.output = w.output
  size : w.heap.size ≤ w'.heap.size
  block : ∀ k, k < w.heap.size → k ≠ n → k ≠ n + 2 → w'.heap[k]? = w.heap[k]?
theorem Bk.refl (n : Nat) (w : World) : Bk n w w := ⟨rfl, rfl, rfl, Nat.le_refl _, fun _ _ _ _ => rfl⟩
theorem Bk.trans {n : Nat} {a b c : World} (h : Bk n a b) (k : Bk n b c) : Bk n a c :=
  ⟨k.os.trans h.os, k.tape.trans h.tape, k.output.trans h.output, Nat.le_trans h.size k.size, fun i hi h1 h2 => (k.block i (Nat.lt_of_lt_of_le hi h.size) h1 h2).trans (h.block i hi h1 h2)⟩
theorem Bk.of (n : Nat) {w w' : World} (h : Below w.heap.size w w') : Bk n w w' := ⟨h.os, h.tape, h.output, h.size, fun k hk _ _ => h.block k hk⟩
theorem Bk.set (n i : Nat) (w : World) (v : Value) : Bk n w (w.setCell ⟨n + 2, i, none⟩ v) := ⟨rfl, rfl, rfl, by simp [World.setCell], fun _ _ _ h2 => setf h2 v⟩
theorem Bk.chan (n : Nat) (w : World) (cap : Nat) (buf : Array Value) (cl : Bool) (s r : Nat) (tm : Bool) : Bk n w (w.setChan n cap buf cl s r tm) :=
  ⟨rfl, rfl, rfl, Nat.le_of_eq (size_setChan _ _ _ _ _ _ _ _).symm, fun k _ hk _ => by
    simp only [World.setChan]
    rw [Array.getElem?_setIfInBounds_ne (fun e => hk e.symm)]⟩
theorem Bk.below {n : Nat} {w w' : World} (h : Bk n w w') (hn : n ≤ w.heap.size) : Below n w w' := ⟨h.os, h.tape, h.output, h.size, fun k hk => h.block k (by omega) (by omega) (by omega)⟩
theorem MapS.apart {m n N m2 : Nat} {D : DataW Unit} {pub : ByteArray} {buf : Array Value} {w : World} (h : MapS m N D w) (k : HA n pub m2 buf w) : m ≠ n ∧ m ≠ n + 1 ∧ m ≠ n + 2 := by
  obtain ⟨es, clock, hb, _⟩ := h
  obtain ⟨⟨cs, a, _⟩, r, s, t, d⟩ := k
  refine ⟨?_, ?_, ?_⟩ <;> (rintro rfl; simp_all)
theorem MapS.bk {m n N : Nat} {D : DataW Unit} {w w' : World} (h : MapS m N D w) (k : Bk n w w') (h1 : m ≠ n) (h2 : m ≠ n + 2) : MapS m N D w' := by
  have hl := h.lt
  obtain ⟨es, clock, hb, F, hs, hD⟩ := h
  exact ⟨es, clock, (k.block m hl h1 h2).trans hb, F, hs, hD⟩
theorem MapS.up {m N : Nat} {D : DataW Unit} {w w' : World} (h : MapS m N D w) (k : Below w.heap.size w w') : MapS m N D w' := h.kept (grown_of_below k) (by simp)
theorem urls_snoc_yes {q : ByteArray} {P : ByteArray → Bool} {l : List ByteArray} {t : ByteArray} (hp : P t = true) : urls q P (l ++ [t]) = urls q P l ++ [url q t] := by
  unfold urls
  simp [List.filter_append, hp]
theorem urls_snoc_no {q : ByteArray} {P : ByteArray → Bool} {l : List ByteArray} {t : ByteArray} (hp : P t = false) : urls q P (l ++ [t]) = urls q P l := by
  unfold urls
  simp [List.filter_append, hp]
theorem urls_perm {q : ByteArray} {P : ByteArray → Bool} {l m : List ByteArray} (h : l.Perm m) : (urls q P l).Perm (urls q P m) := (h.filter P).map _
/-- A name's key. -/
def keyN (t : ByteArray) : Lit := .string (outK t).data.toList
theorem keyN_inj {s t : ByteArray} (h : keyN s = keyN t) : s = t := by
  unfold keyN at h
  injection h with h
  exact outK_inj (by rw [← Lib.mk_data (outK s), ← Lib.mk_data (outK t), h])
/-- The names seen, in their order; 'left' says of the others that they are to come. -/
structure Seen (ts gs : List ByteArray) (left : Lit → Bool) (dn : List ByteArray) : Prop where
  nd : dn.Nodup
  sub : ∀ t ∈ dn, t ∈ ts
  lft : ∀ t ∈ ts, left (keyN t) = true ↔ t ∉ dn
  has : ∀ k, left k = true → Maps.has (bmap (kvs ts gs)) k = true
theorem has_name {ts gs : List ByteArray} (hl : ts.length = gs.length) {k : Lit} : Maps.has (bmap (kvs ts gs)) k = true ↔ ∃ t ∈ ts, k = keyN t := by
  rw [bmap_has _ _ rfl]
  constructor
  · rintro ⟨p, hp, rfl⟩
    unfold kvs at hp
    obtain ⟨⟨s, t⟩, hz, rfl⟩ := List.mem_map.1 hp
    exact ⟨s, (List.of_mem_zip hz).1, rfl⟩
  · rintro ⟨t, ht, rfl⟩
    obtain ⟨i, hi⟩ := List.mem_iff_getElem?.1 ht
    have hi2 : i < gs.length := by rw [← hl]; exact (List.getElem?_eq_some_iff.1 hi).1
    exact ⟨_, List.mem_of_getElem? (kvs_get hi (List.getElem?_eq_getElem hi2)), rfl⟩
theorem Seen.start {ts gs : List ByteArray} (hl : ts.length = gs.length) : Seen ts gs (Maps.has (bmap (kvs ts gs))) [] :=
  ⟨List.nodup_nil, fun t h => by simp at h, fun t ht => by simp [(has_name hl).2 ⟨t, ht, rfl⟩], fun _ h => h⟩
theorem Seen.next {ts gs : List ByteArray} {left : Lit → Bool} {dn : List ByteArray} (h : Seen ts gs left dn) (hl : ts.length = gs.length) {kl : Lit} (hk : left kl = true) :
    ∃ t ∈ ts, kl = keyN t ∧ Seen ts gs (fun z => left z && !z.sameKey kl) (dn ++ [t]) := by
  obtain ⟨t, ht, rfl⟩ := (has_name hl).1 (h.has _ hk)
  have hd := (h.lft t ht).1 hk
  have hkl : WideAt.IsKeyLit (keyN t) := by simp [keyN, WideAt.IsKeyLit]
  refine ⟨t, ht, rfl, ?_, ?_, ?_, ?_⟩
  · rw [List.nodup_append]
    refine ⟨h.nd, by simp, fun a ha b hb e => ?_⟩
    rw [List.mem_singleton] at hb
    exact hd (by rw [← hb, ← e]; exact ha)
  · intro s hs
    rcases List.mem_append.1 hs with hs | hs
    · exact h.sub s hs
    · rw [List.mem_singleton] at hs
      rw [hs]
      exact ht
  · intro s hs
    have h1 := h.lft s hs
    have h2 := WideAt.sameKey_iff (a := keyN s) hkl
    simp only [Bool.and_eq_true, Bool.not_eq_true', List.mem_append, List.mem_singleton, not_or, ← h1]
    refine and_congr_right fun _ => ?_
    rw [← Bool.not_eq_true, h2]
    exact ⟨fun hne e => hne (by rw [e]), fun hne e => hne (keyN_inj e)⟩
  · intro k hk2
    simp only [Bool.and_eq_true] at hk2
    exact h.has k hk2.1
theorem Seen.done {ts gs : List ByteArray} {left : Lit → Bool} {dn : List ByteArray} (h : Seen ts gs left dn) (hd : ts.Nodup) (hz : ∀ k, left k = false) : dn.Perm ts :=
  (List.perm_ext_iff_of_nodup h.nd hd).2 fun t => ⟨h.sub t, fun ht => Classical.byContradiction fun hn => by
    have := (h.lft t ht).2 hn
    rw [hz] at this
    cases this⟩
theorem look_at {ss hs : List ByteArray} (hd : ss.Nodup) (hl : ss.length = hs.length) {t : ByteArray} (ht : t ∈ ss) (z : DataW Unit) : (bmap (kvs ss hs)).atKey (keyN t) z = .lit (.string (hOf ss hs t).data.toList) := by
  obtain ⟨i, hi⟩ := List.mem_iff_getElem?.1 ht
  have hi2 : i < hs.length := by rw [← hl]; exact (List.getElem?_eq_some_iff.1 hi).1
  have h2 := List.getElem?_eq_getElem hi2
  rw [hOf_at hd hi h2]
  exact kvs_at hd hi h2 z
theorem key_x {x : ByteArray} {kl : Lit} (h : keyOf Tryz.prog 9 (.string x) = some kl) : kl = .string x.data.toList ∧ x.size ≤ maxLen := by
  obtain ⟨s, e, hk, hs⟩ := Go.WideMaps.string_of_keyOf Tryz.underlying9 h
  injection e with e
  rw [e]
  exact ⟨hk, hs⟩
theorem val_c {c : ByteArray} {y : DataW Unit × List MemPlace} (h : plainElem Tryz.prog 9 (.string c) = some y) : y.1 = .lit (.string c.data.toList) := by
  obtain ⟨s, e, hk⟩ := plainElem_string_inv (H := Unit) Tryz.underlying9 h
  exact (congrArg Prod.fst hk.1).trans (congrArg (fun b : ByteArray => DataW.lit (Lit.string b.data.toList)) (Value.string.inj e).symm)
end Go.Proofs.YtglchiomdojjoaaGreatFmt
