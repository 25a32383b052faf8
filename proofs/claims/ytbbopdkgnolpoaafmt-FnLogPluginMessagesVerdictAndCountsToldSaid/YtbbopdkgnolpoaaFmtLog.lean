/-
  The contracts of the deferred log: making it, adding an error, asking for errors; conditions: those that each names.
-/
import Derived.Test.YtbbopdkgnolpoaaFmtRows
import Derived.Test.YtbbopdkgnolpoaaFmtLocks
import Derived.Test.YtbbopdkgnolpoaaFmtMsg
import Derived.Conc.MuLone
import Derived.WalkKit
import Derived.WalkSpells
import Derived.WalkLawsBesides
import Derived.Lib.Hide
import Derived.OwnWalk
import Derived.Defers
import Derived.Deep.RegionHeld3
import Derived.Deep.Cut
import Derived.BigQuiet
import Derived.Deep.QuietTactic
import Derived.Lib.OthersKept
namespace Go.Proofs.YtbbopdkgnolpoaaFmt
open Go.RowKit Go.MuLone

/-- The log's four variables: the kind, the messages, the lock, whether there are errors; the messages. -/
structure LogAt (B bk bm bu bh : Nat) (he : Bool) (ms : List Mg) (w : World) : Prop where
  k : w.heap[bk]? = some (.cells #[.int .u8 0] 43 (0, 0))
  u : w.heap[bu]? = some (.cells #[.int .i32 0, .int .u32 0] 52 (0, 0))
  h : w.heap[bh]? = some (.cells #[.bool he] 4 (0, 0))
  m : ∃ v, w.heap[bm]? = some (.cells #[v] 45 (0, 0)) ∧ w.ownsRow B 33 8 v ms.length (ms.flatMap Mg.cells)
/-- Nothing but the log's variables and rows of messages has changed. -/
structure LK (B bm bu bh : Nat) (w w' : World) : Prop where
  os : w'.os = w.os
  tape : w'.tape = w.tape
  output : w'.output = w.output
  size : w.heap.size ≤ w'.heap.size
  block : ∀ k o, w.heap[k]? = some o → k ≠ bm → k ≠ bu → k ≠ bh → (B ≤ k → ∀ c fz, o ≠ .cells c 33 fz) → w'.heap[k]? = some o
theorem LK.refl (B bm bu bh : Nat) (w : World) : LK B bm bu bh w w := ⟨rfl, rfl, rfl, Nat.le_refl _, fun _ _ h _ _ _ _ => h⟩
theorem LK.trans {B bm bu bh : Nat} {a b c : World} (h : LK B bm bu bh a b) (k : LK B bm bu bh b c) : LK B bm bu bh a c :=
  ⟨k.os.trans h.os, k.tape.trans h.tape, k.output.trans h.output, Nat.le_trans h.size k.size, fun i o hi h1 h2 h3 h4 => k.block i o (h.block i o hi h1 h2 h3 h4) h1 h2 h3 h4⟩
theorem LK.below {B bm bu bh : Nat} {a b : World} (h : Below a.heap.size a b) : LK B bm bu bh a b :=
  ⟨h.os, h.tape, h.output, h.size, fun i _ hi _ _ _ _ => (h.block i (Array.getElem?_eq_some_iff.1 hi).1).trans hi⟩

theorem info33 : (Tryf.prog.info? 33).map (fun i => (i.zero, i.size, i.bytes)) = some (some (.agg #[.slice none 0 0, .string ⟨#[]⟩, .nilIface, .pointer none, .string ⟨#[]⟩, .bool false, .int .u8 0, .int .u8 0]), 8, 96) := by kernel_rfl

theorem setc {w : World} {b i : Nat} {cs : Array Value} {t : TypeId} {fz : Nat × Nat} (h : w.heap[b]? = some (.cells cs t fz)) (v : Value) : (w.setCell ⟨b, i, none⟩ v).heap[b]? = some (.cells (cs.setIfInBounds i v) t fz) := by
  simp [World.setCell, Array.getElem?_modify, h]
theorem setf {w : World} {b c i : Nat} (h : c ≠ b) (v : Value) : (w.setCell ⟨b, i, none⟩ v).heap[c]? = w.heap[c]? := Below.heap_setCell w ⟨b, i, none⟩ v c h
theorem lk_set {B bm bu bh b i : Nat} {w : World} (hb : b = bm ∨ b = bu ∨ b = bh) (v : Value) : LK B bm bu bh w (w.setCell ⟨b, i, none⟩ v) :=
  ⟨rfl, rfl, rfl, by simp [World.setCell], fun k o hk h1 h2 h3 _ => by rw [setf (by rintro rfl; rcases hb with h | h | h <;> contradiction) v]; exact hk⟩
theorem own_set {B b n : Nat} {e : TypeId} {w : World} {v : Value} {xs : List Value} {t : TypeId} {cs : Array Value} {i : Nat} (h : w.ownsRow B e 8 v n xs) (hb : w.heap[b]? = some (.cells cs t (0, 0))) (hne : t ≠ e) (u : Value) : (w.setCell ⟨b, i, none⟩ u).ownsRow B e 8 v n xs := by
  refine ⟨h.1, ?_⟩
  rcases h.2 with h | ⟨g, cap, cur, hv, hbase, hg, rest⟩
  · exact .inl h
  · refine .inr ⟨g, cap, cur, hv, hbase, ?_, rest⟩
    rw [setf (by rintro rfl; rw [hb] at hg; cases hg; exact hne rfl)]
    exact hg
theorem cells_new (w : World) (vs : List Value) (t : TypeId) : ∀ j u, vs[j]? = some u → (w.alloc (.cells vs.toArray t)).cell? ((⟨w.heap.size, 0, none⟩ : Addr).add j) = some u := by
  intro j u hu
  have e : (⟨w.heap.size, 0, none⟩ : Addr).add j = ⟨w.heap.size, j, none⟩ := by unfold Addr.add; split <;> simp_all
  rw [e]
  refine (Lib.cell_of_heap (heap_alloc_new w _) j).trans ?_
  simpa using hu
theorem LogAt.ne {B bk bm bu bh : Nat} {he : Bool} {ms : List Mg} {w : World} (h : LogAt B bk bm bu bh he ms w) : bk ≠ bm ∧ bk ≠ bu ∧ bk ≠ bh ∧ bm ≠ bu ∧ bm ≠ bh ∧ bu ≠ bh := by
  obtain ⟨h1, h2, h3, v, h4, _⟩ := h
  refine ⟨?_, ?_, ?_, ?_, ?_, ?_⟩ <;> (rintro rfl; simp_all)

theorem own_far {B n : Nat} {e : TypeId} {w : World} {v : Value} {xs : List Value} (h : w.ownsRow B e 8 v n xs) {k : Nat} {o : Obj} (hk : w.heap[k]? = some o) (ho : B ≤ k → ∀ c fz, o ≠ .cells c e fz) : some k ≠ v.ownBlock := by
  rcases h.2 with ⟨rfl, _⟩ | ⟨g, cap, cur, rfl, hbg, hg, _⟩
  · simp [Value.ownBlock]
  · intro e'
    obtain rfl : k = g := by simpa [Value.ownBlock] using e'
    rw [hk] at hg
    cases hg
    exact ho (by assumption) _ _ rfl
theorem sz0 (w : World) (o : Obj) : w.heap.size ≤ (w.alloc o).heap.size := by
  show _ ≤ (w.heap.push o).size
  rw [Array.size_push]
  omega
theorem sz1 (w : World) (o : Obj) {k : Nat} (h : k < w.heap.size) : k < (w.alloc o).heap.size := Nat.lt_of_lt_of_le h (sz0 w o)
theorem lk_grow {bm bu bh B n : Nat} {w w' : World} {o : Obj} {v : Value} {xs : List Value} (h : w.ownsRow B 33 8 v n xs) (hg : (w.alloc o).grownBy w' v.ownBlock) : LK B bm bu bh w w' :=
  ⟨hg.os, hg.tape, hg.output, Nat.le_trans (sz0 w o) hg.size, fun k o hk _ _ _ ho => by
    have hlt := (Array.getElem?_eq_some_iff.1 hk).1
    rw [hg.block k (sz1 w _ hlt) (own_far h hk ho), heap_alloc_old w _ hlt, hk]⟩
theorem snoc_own {w : World} {B : Nat} {v : Value} {ms : List Mg} {m : Mg} (h : w.ownsRow B 33 8 v (ms.length + 1) (ms.flatMap Mg.cells ++ m.cells)) : w.ownsRow B 33 8 v (ms ++ [m]).length ((ms ++ [m]).flatMap Mg.cells) := by
  rw [List.length_append, List.flatMap_append, List.flatMap_cons, List.flatMap_nil, List.append_nil]
  exact h
theorem log_end {B bk bm bu bh : Nat} {w w' : World} {o : Obj} {v v' : Value} {ms : List Mg} {m : Mg} {he : Bool} (e1 : bk ≠ bm) (e2 : bk ≠ bu) (e4 : bm ≠ bu) (e5 : bm ≠ bh) (e6 : bu ≠ bh)
    (h1 : w.heap[bk]? = some (.cells #[.int .u8 0] 43 (0, 0))) (h2 : w.heap[bu]? = some (.cells #[.int .i32 1, .int .u32 0] 52 (0, 0))) (h3 : w.heap[bh]? = some (.cells #[.bool he] 4 (0, 0))) (h4 : w.heap[bm]? = some (.cells #[v] 45 (0, 0)))
    (h : w.ownsRow B 33 8 v ms.length (ms.flatMap Mg.cells)) (hg : (w.alloc o).grownBy w' v.ownBlock) (h' : w'.ownsRow B 33 8 v' (ms.length + 1) (ms.flatMap Mg.cells ++ m.cells)) :
    w'.cell? ⟨bm, 0, none⟩ = some v ∧ w'.frozen? ⟨bm, 0, none⟩ = false ∧ w'.cell? ⟨bu, 0, none⟩ = some (.int .i32 1) ∧ w'.frozen? ⟨bu, 0, none⟩ = false ∧
    LogAt B bk bm bu bh he (ms ++ [m]) ((w'.setCell ⟨bm, 0, none⟩ v').setCell ⟨bu, 0, none⟩ (.int .i32 0)) ∧ LK B bm bu bh w ((w'.setCell ⟨bm, 0, none⟩ v').setCell ⟨bu, 0, none⟩ (.int .i32 0)) := by
  have up : ∀ (k : Nat) (c : Array Value) (t : TypeId), t ≠ 33 → w.heap[k]? = some (.cells c t (0, 0)) → w'.heap[k]? = some (.cells c t (0, 0)) := fun k c t ht hk => by
    have hlt := (Array.getElem?_eq_some_iff.1 hk).1
    rw [hg.block k (sz1 w _ hlt) (own_far h hk fun _ c' fz e => by cases e; exact ht rfl), heap_alloc_old w _ hlt, hk]
  have g1 := up _ _ _ (by decide) h1
  have g2 := up _ _ _ (by decide) h2
  have g3 := up _ _ _ (by decide) h3
  have g4 := up _ _ _ (by decide) h4
  have t2 : (w'.setCell ⟨bm, 0, none⟩ v').heap[bu]? = some (.cells #[.int .i32 1, .int .u32 0] 52 (0, 0)) := by rw [setf e4.symm, g2]
  refine ⟨Lib.cell_of_heap g4 0, Lib.frozen_of_heap g4 0, Lib.cell_of_heap g2 0, Lib.frozen_of_heap g2 0, ⟨?_, setc t2 (i := 0) (.int .i32 0), ?_, v', ?_, own_set (own_set (snoc_own h') g4 (by decide) _) t2 (by decide) _⟩, ((lk_grow h hg).trans (lk_set (.inl rfl) _)).trans (lk_set (.inr (.inl rfl)) _)⟩
  · rw [setf e2, setf e1, g1]
  · rw [setf e6.symm, setf e5.symm, g3]
  · rw [setf e4]; exact setc g4 (i := 0) v'


set_option maxHeartbeats 2000000 in
set_option maxRecDepth 100000 in
theorem add_err0 (B bk bm bu bh : Nat) (he : Bool) (ms : List Mg) (nm T : ByteArray) (w : World) (h : LogAt B bk bm bu bh he ms w) (hB : B ≤ w.heap.size) (hn : ms.length ≤ 65536) :
    Calls Tryf.prog 8 #[.agg #[.slice none 0 0, .string nm, .nilIface, .pointer none, .string T, .bool false, .int .u8 0, .int .u8 0], .pointer (some ⟨bk, 0, none⟩), .pointer (some ⟨bu, 0, none⟩), .pointer (some ⟨bh, 0, none⟩), .pointer (some ⟨bm, 0, none⟩)] w fun e w' => e = .returned (.tuple #[]) ∧ LogAt B bk bm bu bh true (ms ++ [⟨nm, none, T, 0⟩]) w' ∧ LK B bm bu bh w w' := by
  obtain ⟨n1, n2, n3, n4, n5, n6⟩ := h.ne
  have H := Lib.hid h
  obtain ⟨h1, h2, h3, v, h4, h5⟩ := h
  have l1 := (Array.getElem?_eq_some_iff.1 h1).1
  have l2 := (Array.getElem?_eq_some_iff.1 h2).1
  have l3 := (Array.getElem?_eq_some_iff.1 h3).1
  have l4 := (Array.getElem?_eq_some_iff.1 h4).1
  obtain ⟨i0, hi, hz0, hz1, hz2⟩ := info_parts info33
  have HI := Lib.hid (And.intro hi (And.intro hz0 (And.intro hz1 hz2)))
  clear hi hz0 hz1 hz2
  have ck : w.cell? ⟨bk, 0, none⟩ = some (.int .u8 0) := Lib.cell_of_heap h1 0
  have hbel : Below w.heap.size w (w.alloc (.cells #[.slice none 0 0, .string nm, .nilIface, .pointer none, .string T, .bool false, .int .u8 0, .int .u8 0] 33)) := (Below.refl _ _).alloc (Nat.le_refl _) _
  obtain ⟨W, hW⟩ : ∃ W, W = w.alloc (.cells #[.slice none 0 0, .string nm, .nilIface, .pointer none, .string T, .bool false, .int .u8 0, .int .u8 0] 33) := ⟨_, rfl⟩
  have hz : W.heap[w.heap.size]? = some (.cells #[.slice none 0 0, .string nm, .nilIface, .pointer none, .string T, .bool false, .int .u8 0, .int .u8 0] 33 (0, 0)) := by rw [hW]; exact heap_alloc_new w _
  rw [← hW] at hbel
  have g1 := (hbel.block _ l1).trans h1
  have g2 := (hbel.block _ l2).trans h2
  have g3 := (hbel.block _ l3).trans h3
  have g4 := (hbel.block _ l4).trans h4
  have g5 : W.ownsRow B 33 8 v ms.length (ms.flatMap Mg.cells) := h5.kept (row := none) ⟨hbel.os, hbel.tape, hbel.output, hbel.size, fun k hk _ => hbel.block k hk⟩ (Classical.em _)
  obtain ⟨z, hzz⟩ : ∃ z, z = w.heap.size := ⟨_, rfl⟩
  rw [← hzz] at hz
  have m1 : z ≠ bk := by omega
  have m2 : z ≠ bu := by omega
  have m3 : z ≠ bh := by omega
  have m4 : z ≠ bm := by omega
  have cu' : W.cell? ⟨bu, 0, none⟩ = some (.int .i32 0) := Lib.cell_of_heap g2 0
  have fu' : W.frozen? ⟨bu, 0, none⟩ = false := Lib.frozen_of_heap g2 0
  have ch' : W.cell? ⟨bh, 0, none⟩ = some (.bool he) := Lib.cell_of_heap g3 0
  have fh' : W.frozen? ⟨bh, 0, none⟩ = false := Lib.frozen_of_heap g3 0
  have ck' : W.cell? ⟨bk, 0, none⟩ = some (.int .u8 0) := Lib.cell_of_heap g1 0
  have cz : W.cell? ⟨z, 6, none⟩ = some (.int .u8 0) := Lib.cell_of_heap hz 6
  -- behind the lock and the store
  have t2 := setc g2 (i := 0) (.int .i32 1)
  have s1 : ((W.setCell ⟨bu, 0, none⟩ (.int .i32 1)).setCell ⟨bh, 0, none⟩ (.bool true)).heap[bk]? = some (.cells #[.int .u8 0] 43 (0, 0)) := by rw [setf n3, setf n2, g1]
  have s2 : ((W.setCell ⟨bu, 0, none⟩ (.int .i32 1)).setCell ⟨bh, 0, none⟩ (.bool true)).heap[bu]? = some (.cells #[.int .i32 1, .int .u32 0] 52 (0, 0)) := by rw [setf n6]; exact t2
  have t3 : (W.setCell ⟨bu, 0, none⟩ (.int .i32 1)).heap[bh]? = some (.cells #[.bool he] 4 (0, 0)) := by rw [setf n6.symm, g3]
  have s3 : ((W.setCell ⟨bu, 0, none⟩ (.int .i32 1)).setCell ⟨bh, 0, none⟩ (.bool true)).heap[bh]? = some (.cells #[.bool true] 4 (0, 0)) := setc t3 (i := 0) (.bool true)
  have s4 : ((W.setCell ⟨bu, 0, none⟩ (.int .i32 1)).setCell ⟨bh, 0, none⟩ (.bool true)).heap[bm]? = some (.cells #[v] 45 (0, 0)) := by rw [setf n5, setf n4, g4]
  have s5 := own_set (i := 0) (own_set (i := 0) g5 g2 (by decide) (.int .i32 1)) t3 (by decide) (.bool true)
  have s6 : ((W.setCell ⟨bu, 0, none⟩ (.int .i32 1)).setCell ⟨bh, 0, none⟩ (.bool true)).heap[z]? = some (.cells #[.slice none 0 0, .string nm, .nilIface, .pointer none, .string T, .bool false, .int .u8 0, .int .u8 0] 33 (0, 0)) := by rw [setf m3, setf m2, hz]
  have s7 : LK B bm bu bh w ((W.setCell ⟨bu, 0, none⟩ (.int .i32 1)).setCell ⟨bh, 0, none⟩ (.bool true)) := ((LK.below hbel).trans (lk_set (.inr (.inl rfl)) _)).trans (lk_set (.inr (.inr rfl)) _)
  have HS := Lib.hid (And.intro s1 (And.intro s2 (And.intro s3 (And.intro s4 (And.intro s5 (And.intro s6 s7))))))
  have HZ := Lib.hid (And.intro hW hzz)
  clear hW hzz h1 h2 h3 h4 h5 hz g1 g2 g3 g4 g5 s1 t2 s2 t3 s3 s4 s5 s6 s7 hbel l1 l2 l3 l4 ck
  go_enter_defers Tryf.func8, Tryf.ntmps8
  go_upto_region 1 with fail
  rw [← HZ.out.1, ← HZ.out.2]
  go_wp2_with fail
  refine (lock_free Tryf.muLib ⟨bu, 0, none⟩ _ cu' fu').mono ?_
  rintro e w' ⟨rfl, rfl⟩
  go_upto_region 6 with fail
  obtain ⟨W3, hW3⟩ : ∃ W3, W3 = (W.setCell ⟨bu, 0, none⟩ (.int .i32 1)).setCell ⟨bh, 0, none⟩ (.bool true) := ⟨_, rfl⟩
  rw [← hW3] at HS ⊢
  clear hW3 cu' fu' ch' fh' ck' cz m1 m2 m3 m4 HZ
  obtain ⟨s1, s2, s3, s4, s5, s6, s7⟩ := HS.out
  have hs3 := s7.size
  have c4 : W3.cell? ⟨bm, 0, none⟩ = some v := Lib.cell_of_heap s4 0
  have z0 : W3.cell? ⟨z, 0, none⟩ = some (.slice none 0 0) := Lib.cell_of_heap s6 0
  have z1 : W3.cell? ⟨z, 1, none⟩ = some (.string nm) := Lib.cell_of_heap s6 1
  have z2 : W3.cell? ⟨z, 2, none⟩ = some .nilIface := Lib.cell_of_heap s6 2
  have z3 : W3.cell? ⟨z, 3, none⟩ = some (.pointer none) := Lib.cell_of_heap s6 3
  have z4 : W3.cell? ⟨z, 4, none⟩ = some (.string T) := Lib.cell_of_heap s6 4
  have z5 : W3.cell? ⟨z, 5, none⟩ = some (.bool false) := Lib.cell_of_heap s6 5
  have z6 : W3.cell? ⟨z, 6, none⟩ = some (.int .u8 0) := Lib.cell_of_heap s6 6
  have z7 : W3.cell? ⟨z, 7, none⟩ = some (.int .u8 0) := Lib.cell_of_heap s6 7
  clear s1 s2 s3 s4 s5 s6 s7
  go_wp2_with (at_builtin; refine wpList_append_own _ rfl _ _ 45 rfl B 33 i0 (.agg #[.slice none 0 0, .string ⟨#[]⟩, .nilIface, .pointer none, .string ⟨#[]⟩, .bool false, .int .u8 0, .int .u8 0]) 8 96 Tryf.underlying45 HI.out.1 HI.out.2.1 HI.out.2.2.1 HI.out.2.2.2 rfl (by decide) _ _ _ rfl (HS.out.2.2.2.2.1.alloc _) ⟨W3.heap.size, 0, none⟩ 1 1 [.slice none 0 0, .string nm, .nilIface, .pointer none, .string T, .bool false, .int .u8 0, .int .u8 0] rfl rfl (cells_new W3 _ 33) ?g1 ?g2 ?g3 ?g4 ?_)
  case g1 => intro u hu; simp at hu; rcases hu with rfl | rfl | rfl | rfl | rfl | rfl | rfl | rfl <;> rfl
  case g2 => unfold maxLen; omega
  case g3 => omega
  case g4 => simp; omega
  intro v' w5 hown' hgrow _
  obtain ⟨s1, s2, s3, s4, s5, s6, s7⟩ := HS.out
  obtain ⟨d1, d2, d3, d4, d5, d6⟩ := log_end (m := ⟨nm, none, T, 0⟩) n1 n2 n4 n5 n6 s1 s2 s3 s4 s5 hgrow hown'
  have HF := Lib.hid (And.intro d5 (s7.trans d6))
  obtain ⟨gg, gcap, rfl⟩ : ∃ g cap, v' = .slice (some ⟨g, 0, none⟩) (ms.length + 1) cap := by
    rcases hown'.2 with hx | ⟨g, cap, cur, hv, _⟩
    · exact absurd hx.2 (by omega)
    · exact ⟨g, cap, hv⟩
  clear s1 s2 s3 s4 s5 s6 s7 d5 d6 HS hgrow hown' c4 z0 z1 z2 z3 z4 z5 z6 z7 hs3 HI H
  go_wp2_with fail
  refine leaves_cons (f := 10) (args := #[.pointer (some ⟨bu, 0, none⟩)]) (by simp) (by simp [go_sem]) ?_
  refine (unlock_deferred Tryf.muLib ⟨bu, 0, none⟩ .returning _ ?_ ?_).mono ?_
  · rw [World.cell?_setCell_other _ _ _ _ (by intro e; cases e; exact n4 rfl)]; exact d3
  · simp [d4]
  rintro e u' w'' ⟨rfl, rfl, rfl⟩
  exact ⟨_, results_none rfl _ _ _, rfl, HF.out.1, HF.out.2⟩

set_option maxHeartbeats 2000000 in
set_option maxRecDepth 100000 in
theorem add_warn0 (B bk bm bu bh : Nat) (he : Bool) (ms : List Mg) (nm T : ByteArray) (w : World) (h : LogAt B bk bm bu bh he ms w) (hB : B ≤ w.heap.size) (hn : ms.length ≤ 65536) :
    Calls Tryf.prog 8 #[.agg #[.slice none 0 0, .string nm, .nilIface, .pointer none, .string T, .bool false, .int .u8 1, .int .u8 0], .pointer (some ⟨bk, 0, none⟩), .pointer (some ⟨bu, 0, none⟩), .pointer (some ⟨bh, 0, none⟩), .pointer (some ⟨bm, 0, none⟩)] w fun e w' => e = .returned (.tuple #[]) ∧ LogAt B bk bm bu bh he (ms ++ [⟨nm, none, T, 1⟩]) w' ∧ LK B bm bu bh w w' := by
  obtain ⟨n1, n2, n3, n4, n5, n6⟩ := h.ne
  have H := Lib.hid h
  obtain ⟨h1, h2, h3, v, h4, h5⟩ := h
  have l1 := (Array.getElem?_eq_some_iff.1 h1).1
  have l2 := (Array.getElem?_eq_some_iff.1 h2).1
  have l3 := (Array.getElem?_eq_some_iff.1 h3).1
  have l4 := (Array.getElem?_eq_some_iff.1 h4).1
  obtain ⟨i0, hi, hz0, hz1, hz2⟩ := info_parts info33
  have HI := Lib.hid (And.intro hi (And.intro hz0 (And.intro hz1 hz2)))
  clear hi hz0 hz1 hz2
  have ck : w.cell? ⟨bk, 0, none⟩ = some (.int .u8 0) := Lib.cell_of_heap h1 0
  have hbel : Below w.heap.size w (w.alloc (.cells #[.slice none 0 0, .string nm, .nilIface, .pointer none, .string T, .bool false, .int .u8 1, .int .u8 0] 33)) := (Below.refl _ _).alloc (Nat.le_refl _) _
  obtain ⟨W, hW⟩ : ∃ W, W = w.alloc (.cells #[.slice none 0 0, .string nm, .nilIface, .pointer none, .string T, .bool false, .int .u8 1, .int .u8 0] 33) := ⟨_, rfl⟩
  have hz : W.heap[w.heap.size]? = some (.cells #[.slice none 0 0, .string nm, .nilIface, .pointer none, .string T, .bool false, .int .u8 1, .int .u8 0] 33 (0, 0)) := by rw [hW]; exact heap_alloc_new w _
  rw [← hW] at hbel
  have g1 := (hbel.block _ l1).trans h1
  have g2 := (hbel.block _ l2).trans h2
  have g3 := (hbel.block _ l3).trans h3
  have g4 := (hbel.block _ l4).trans h4
  have g5 : W.ownsRow B 33 8 v ms.length (ms.flatMap Mg.cells) := h5.kept (row := none) ⟨hbel.os, hbel.tape, hbel.output, hbel.size, fun k hk _ => hbel.block k hk⟩ (Classical.em _)
  obtain ⟨z, hzz⟩ : ∃ z, z = w.heap.size := ⟨_, rfl⟩
  rw [← hzz] at hz
  have m1 : z ≠ bk := by omega
  have m2 : z ≠ bu := by omega
  have m3 : z ≠ bh := by omega
  have m4 : z ≠ bm := by omega
  have cu' : W.cell? ⟨bu, 0, none⟩ = some (.int .i32 0) := Lib.cell_of_heap g2 0
  have fu' : W.frozen? ⟨bu, 0, none⟩ = false := Lib.frozen_of_heap g2 0
  have ch' : W.cell? ⟨bh, 0, none⟩ = some (.bool he) := Lib.cell_of_heap g3 0
  have fh' : W.frozen? ⟨bh, 0, none⟩ = false := Lib.frozen_of_heap g3 0
  have ck' : W.cell? ⟨bk, 0, none⟩ = some (.int .u8 0) := Lib.cell_of_heap g1 0
  have cz : W.cell? ⟨z, 6, none⟩ = some (.int .u8 1) := Lib.cell_of_heap hz 6
  -- behind the lock and the store
  have t2 := setc g2 (i := 0) (.int .i32 1)
  have s1 : (W.setCell ⟨bu, 0, none⟩ (.int .i32 1)).heap[bk]? = some (.cells #[.int .u8 0] 43 (0, 0)) := by rw [setf n2, g1]
  have s2 : (W.setCell ⟨bu, 0, none⟩ (.int .i32 1)).heap[bu]? = some (.cells #[.int .i32 1, .int .u32 0] 52 (0, 0)) := t2
  have s3 : (W.setCell ⟨bu, 0, none⟩ (.int .i32 1)).heap[bh]? = some (.cells #[.bool he] 4 (0, 0)) := by rw [setf n6.symm, g3]
  have s4 : (W.setCell ⟨bu, 0, none⟩ (.int .i32 1)).heap[bm]? = some (.cells #[v] 45 (0, 0)) := by rw [setf n4, g4]
  have s5 := own_set (i := 0) g5 g2 (by decide) (.int .i32 1)
  have s6 : (W.setCell ⟨bu, 0, none⟩ (.int .i32 1)).heap[z]? = some (.cells #[.slice none 0 0, .string nm, .nilIface, .pointer none, .string T, .bool false, .int .u8 1, .int .u8 0] 33 (0, 0)) := by rw [setf m2, hz]
  have s7 : LK B bm bu bh w (W.setCell ⟨bu, 0, none⟩ (.int .i32 1)) := (LK.below hbel).trans (lk_set (.inr (.inl rfl)) _)
  have HS := Lib.hid (And.intro s1 (And.intro s2 (And.intro s3 (And.intro s4 (And.intro s5 (And.intro s6 s7))))))
  have HZ := Lib.hid (And.intro hW hzz)
  clear hW hzz h1 h2 h3 h4 h5 hz g1 g2 g3 g4 g5 s1 t2 s2 s3 s4 s5 s6 s7 hbel l1 l2 l3 l4 ck
  go_enter_defers Tryf.func8, Tryf.ntmps8
  go_upto_region 1 with fail
  rw [← HZ.out.1, ← HZ.out.2]
  go_wp2_with fail
  refine (lock_free Tryf.muLib ⟨bu, 0, none⟩ _ cu' fu').mono ?_
  rintro e w' ⟨rfl, rfl⟩
  go_upto_region 6 with fail
  obtain ⟨W3, hW3⟩ : ∃ W3, W3 = W.setCell ⟨bu, 0, none⟩ (.int .i32 1) := ⟨_, rfl⟩
  rw [← hW3] at HS ⊢
  clear hW3 cu' fu' ch' fh' ck' cz m1 m2 m3 m4 HZ
  obtain ⟨s1, s2, s3, s4, s5, s6, s7⟩ := HS.out
  have hs3 := s7.size
  have c4 : W3.cell? ⟨bm, 0, none⟩ = some v := Lib.cell_of_heap s4 0
  have z0 : W3.cell? ⟨z, 0, none⟩ = some (.slice none 0 0) := Lib.cell_of_heap s6 0
  have z1 : W3.cell? ⟨z, 1, none⟩ = some (.string nm) := Lib.cell_of_heap s6 1
  have z2 : W3.cell? ⟨z, 2, none⟩ = some .nilIface := Lib.cell_of_heap s6 2
  have z3 : W3.cell? ⟨z, 3, none⟩ = some (.pointer none) := Lib.cell_of_heap s6 3
  have z4 : W3.cell? ⟨z, 4, none⟩ = some (.string T) := Lib.cell_of_heap s6 4
  have z5 : W3.cell? ⟨z, 5, none⟩ = some (.bool false) := Lib.cell_of_heap s6 5
  have z6 : W3.cell? ⟨z, 6, none⟩ = some (.int .u8 1) := Lib.cell_of_heap s6 6
  have z7 : W3.cell? ⟨z, 7, none⟩ = some (.int .u8 0) := Lib.cell_of_heap s6 7
  clear s1 s2 s3 s4 s5 s6 s7
  go_wp2_with (at_builtin; refine wpList_append_own _ rfl _ _ 45 rfl B 33 i0 (.agg #[.slice none 0 0, .string ⟨#[]⟩, .nilIface, .pointer none, .string ⟨#[]⟩, .bool false, .int .u8 0, .int .u8 0]) 8 96 Tryf.underlying45 HI.out.1 HI.out.2.1 HI.out.2.2.1 HI.out.2.2.2 rfl (by decide) _ _ _ rfl (HS.out.2.2.2.2.1.alloc _) ⟨W3.heap.size, 0, none⟩ 1 1 [.slice none 0 0, .string nm, .nilIface, .pointer none, .string T, .bool false, .int .u8 1, .int .u8 0] rfl rfl (cells_new W3 _ 33) ?g1 ?g2 ?g3 ?g4 ?_)
  case g1 => intro u hu; simp at hu; rcases hu with rfl | rfl | rfl | rfl | rfl | rfl | rfl | rfl <;> rfl
  case g2 => unfold maxLen; omega
  case g3 => omega
  case g4 => simp; omega
  intro v' w5 hown' hgrow _
  obtain ⟨s1, s2, s3, s4, s5, s6, s7⟩ := HS.out
  obtain ⟨d1, d2, d3, d4, d5, d6⟩ := log_end (m := ⟨nm, none, T, 1⟩) n1 n2 n4 n5 n6 s1 s2 s3 s4 s5 hgrow hown'
  have HF := Lib.hid (And.intro d5 (s7.trans d6))
  obtain ⟨gg, gcap, rfl⟩ : ∃ g cap, v' = .slice (some ⟨g, 0, none⟩) (ms.length + 1) cap := by
    rcases hown'.2 with hx | ⟨g, cap, cur, hv, _⟩
    · exact absurd hx.2 (by omega)
    · exact ⟨g, cap, hv⟩
  clear s1 s2 s3 s4 s5 s6 s7 d5 d6 HS hgrow hown' c4 z0 z1 z2 z3 z4 z5 z6 z7 hs3 HI H
  go_wp2_with fail
  refine leaves_cons (f := 10) (args := #[.pointer (some ⟨bu, 0, none⟩)]) (by simp) (by simp [go_sem]) ?_
  refine (unlock_deferred Tryf.muLib ⟨bu, 0, none⟩ .returning _ ?_ ?_).mono ?_
  · rw [World.cell?_setCell_other _ _ _ _ (by intro e; cases e; exact n4 rfl)]; exact d3
  · simp [d4]
  rintro e u' w'' ⟨rfl, rfl, rfl⟩
  exact ⟨_, results_none rfl _ _ _, rfl, HF.out.1, HF.out.2⟩

set_option maxHeartbeats 2000000 in
set_option maxRecDepth 100000 in
theorem add_err1 (B bk bm bu bh : Nat) (he : Bool) (ms : List Mg) (nm T : ByteArray) (pb : Nat) (w : World) (h : LogAt B bk bm bu bh he ms w) (hB : B ≤ w.heap.size) (hn : ms.length ≤ 65536) :
    Calls Tryf.prog 8 #[.agg #[.slice none 0 0, .string nm, .iface 68 (.pointer (some ⟨pb, 0, none⟩)), .pointer none, .string T, .bool false, .int .u8 0, .int .u8 0], .pointer (some ⟨bk, 0, none⟩), .pointer (some ⟨bu, 0, none⟩), .pointer (some ⟨bh, 0, none⟩), .pointer (some ⟨bm, 0, none⟩)] w fun e w' => e = .returned (.tuple #[]) ∧ LogAt B bk bm bu bh true (ms ++ [⟨nm, some pb, T, 0⟩]) w' ∧ LK B bm bu bh w w' := by
  obtain ⟨n1, n2, n3, n4, n5, n6⟩ := h.ne
  have H := Lib.hid h
  obtain ⟨h1, h2, h3, v, h4, h5⟩ := h
  have l1 := (Array.getElem?_eq_some_iff.1 h1).1
  have l2 := (Array.getElem?_eq_some_iff.1 h2).1
  have l3 := (Array.getElem?_eq_some_iff.1 h3).1
  have l4 := (Array.getElem?_eq_some_iff.1 h4).1
  obtain ⟨i0, hi, hz0, hz1, hz2⟩ := info_parts info33
  have HI := Lib.hid (And.intro hi (And.intro hz0 (And.intro hz1 hz2)))
  clear hi hz0 hz1 hz2
  have ck : w.cell? ⟨bk, 0, none⟩ = some (.int .u8 0) := Lib.cell_of_heap h1 0
  have hbel : Below w.heap.size w (w.alloc (.cells #[.slice none 0 0, .string nm, .iface 68 (.pointer (some ⟨pb, 0, none⟩)), .pointer none, .string T, .bool false, .int .u8 0, .int .u8 0] 33)) := (Below.refl _ _).alloc (Nat.le_refl _) _
  obtain ⟨W, hW⟩ : ∃ W, W = w.alloc (.cells #[.slice none 0 0, .string nm, .iface 68 (.pointer (some ⟨pb, 0, none⟩)), .pointer none, .string T, .bool false, .int .u8 0, .int .u8 0] 33) := ⟨_, rfl⟩
  have hz : W.heap[w.heap.size]? = some (.cells #[.slice none 0 0, .string nm, .iface 68 (.pointer (some ⟨pb, 0, none⟩)), .pointer none, .string T, .bool false, .int .u8 0, .int .u8 0] 33 (0, 0)) := by rw [hW]; exact heap_alloc_new w _
  rw [← hW] at hbel
  have g1 := (hbel.block _ l1).trans h1
  have g2 := (hbel.block _ l2).trans h2
  have g3 := (hbel.block _ l3).trans h3
  have g4 := (hbel.block _ l4).trans h4
  have g5 : W.ownsRow B 33 8 v ms.length (ms.flatMap Mg.cells) := h5.kept (row := none) ⟨hbel.os, hbel.tape, hbel.output, hbel.size, fun k hk _ => hbel.block k hk⟩ (Classical.em _)
  obtain ⟨z, hzz⟩ : ∃ z, z = w.heap.size := ⟨_, rfl⟩
  rw [← hzz] at hz
  have m1 : z ≠ bk := by omega
  have m2 : z ≠ bu := by omega
  have m3 : z ≠ bh := by omega
  have m4 : z ≠ bm := by omega
  have cu' : W.cell? ⟨bu, 0, none⟩ = some (.int .i32 0) := Lib.cell_of_heap g2 0
  have fu' : W.frozen? ⟨bu, 0, none⟩ = false := Lib.frozen_of_heap g2 0
  have ch' : W.cell? ⟨bh, 0, none⟩ = some (.bool he) := Lib.cell_of_heap g3 0
  have fh' : W.frozen? ⟨bh, 0, none⟩ = false := Lib.frozen_of_heap g3 0
  have ck' : W.cell? ⟨bk, 0, none⟩ = some (.int .u8 0) := Lib.cell_of_heap g1 0
  have cz : W.cell? ⟨z, 6, none⟩ = some (.int .u8 0) := Lib.cell_of_heap hz 6
  -- behind the lock and the store
  have t2 := setc g2 (i := 0) (.int .i32 1)
  have s1 : ((W.setCell ⟨bu, 0, none⟩ (.int .i32 1)).setCell ⟨bh, 0, none⟩ (.bool true)).heap[bk]? = some (.cells #[.int .u8 0] 43 (0, 0)) := by rw [setf n3, setf n2, g1]
  have s2 : ((W.setCell ⟨bu, 0, none⟩ (.int .i32 1)).setCell ⟨bh, 0, none⟩ (.bool true)).heap[bu]? = some (.cells #[.int .i32 1, .int .u32 0] 52 (0, 0)) := by rw [setf n6]; exact t2
  have t3 : (W.setCell ⟨bu, 0, none⟩ (.int .i32 1)).heap[bh]? = some (.cells #[.bool he] 4 (0, 0)) := by rw [setf n6.symm, g3]
  have s3 : ((W.setCell ⟨bu, 0, none⟩ (.int .i32 1)).setCell ⟨bh, 0, none⟩ (.bool true)).heap[bh]? = some (.cells #[.bool true] 4 (0, 0)) := setc t3 (i := 0) (.bool true)
  have s4 : ((W.setCell ⟨bu, 0, none⟩ (.int .i32 1)).setCell ⟨bh, 0, none⟩ (.bool true)).heap[bm]? = some (.cells #[v] 45 (0, 0)) := by rw [setf n5, setf n4, g4]
  have s5 := own_set (i := 0) (own_set (i := 0) g5 g2 (by decide) (.int .i32 1)) t3 (by decide) (.bool true)
  have s6 : ((W.setCell ⟨bu, 0, none⟩ (.int .i32 1)).setCell ⟨bh, 0, none⟩ (.bool true)).heap[z]? = some (.cells #[.slice none 0 0, .string nm, .iface 68 (.pointer (some ⟨pb, 0, none⟩)), .pointer none, .string T, .bool false, .int .u8 0, .int .u8 0] 33 (0, 0)) := by rw [setf m3, setf m2, hz]
  have s7 : LK B bm bu bh w ((W.setCell ⟨bu, 0, none⟩ (.int .i32 1)).setCell ⟨bh, 0, none⟩ (.bool true)) := ((LK.below hbel).trans (lk_set (.inr (.inl rfl)) _)).trans (lk_set (.inr (.inr rfl)) _)
  have HS := Lib.hid (And.intro s1 (And.intro s2 (And.intro s3 (And.intro s4 (And.intro s5 (And.intro s6 s7))))))
  have HZ := Lib.hid (And.intro hW hzz)
  clear hW hzz h1 h2 h3 h4 h5 hz g1 g2 g3 g4 g5 s1 t2 s2 t3 s3 s4 s5 s6 s7 hbel l1 l2 l3 l4 ck
  go_enter_defers Tryf.func8, Tryf.ntmps8
  go_upto_region 1 with fail
  rw [← HZ.out.1, ← HZ.out.2]
  go_wp2_with fail
  refine (lock_free Tryf.muLib ⟨bu, 0, none⟩ _ cu' fu').mono ?_
  rintro e w' ⟨rfl, rfl⟩
  go_upto_region 6 with fail
  obtain ⟨W3, hW3⟩ : ∃ W3, W3 = (W.setCell ⟨bu, 0, none⟩ (.int .i32 1)).setCell ⟨bh, 0, none⟩ (.bool true) := ⟨_, rfl⟩
  rw [← hW3] at HS ⊢
  clear hW3 cu' fu' ch' fh' ck' cz m1 m2 m3 m4 HZ
  obtain ⟨s1, s2, s3, s4, s5, s6, s7⟩ := HS.out
  have hs3 := s7.size
  have c4 : W3.cell? ⟨bm, 0, none⟩ = some v := Lib.cell_of_heap s4 0
  have z0 : W3.cell? ⟨z, 0, none⟩ = some (.slice none 0 0) := Lib.cell_of_heap s6 0
  have z1 : W3.cell? ⟨z, 1, none⟩ = some (.string nm) := Lib.cell_of_heap s6 1
  have z2 : W3.cell? ⟨z, 2, none⟩ = some (.iface 68 (.pointer (some ⟨pb, 0, none⟩))) := Lib.cell_of_heap s6 2
  have z3 : W3.cell? ⟨z, 3, none⟩ = some (.pointer none) := Lib.cell_of_heap s6 3
  have z4 : W3.cell? ⟨z, 4, none⟩ = some (.string T) := Lib.cell_of_heap s6 4
  have z5 : W3.cell? ⟨z, 5, none⟩ = some (.bool false) := Lib.cell_of_heap s6 5
  have z6 : W3.cell? ⟨z, 6, none⟩ = some (.int .u8 0) := Lib.cell_of_heap s6 6
  have z7 : W3.cell? ⟨z, 7, none⟩ = some (.int .u8 0) := Lib.cell_of_heap s6 7
  clear s1 s2 s3 s4 s5 s6 s7
  go_wp2_with (at_builtin; refine wpList_append_own _ rfl _ _ 45 rfl B 33 i0 (.agg #[.slice none 0 0, .string ⟨#[]⟩, .nilIface, .pointer none, .string ⟨#[]⟩, .bool false, .int .u8 0, .int .u8 0]) 8 96 Tryf.underlying45 HI.out.1 HI.out.2.1 HI.out.2.2.1 HI.out.2.2.2 rfl (by decide) _ _ _ rfl (HS.out.2.2.2.2.1.alloc _) ⟨W3.heap.size, 0, none⟩ 1 1 [.slice none 0 0, .string nm, .iface 68 (.pointer (some ⟨pb, 0, none⟩)), .pointer none, .string T, .bool false, .int .u8 0, .int .u8 0] rfl rfl (cells_new W3 _ 33) ?g1 ?g2 ?g3 ?g4 ?_)
  case g1 => intro u hu; simp at hu; rcases hu with rfl | rfl | rfl | rfl | rfl | rfl | rfl | rfl <;> rfl
  case g2 => unfold maxLen; omega
  case g3 => omega
  case g4 => simp; omega
  intro v' w5 hown' hgrow _
  obtain ⟨s1, s2, s3, s4, s5, s6, s7⟩ := HS.out
  obtain ⟨d1, d2, d3, d4, d5, d6⟩ := log_end (m := ⟨nm, some pb, T, 0⟩) n1 n2 n4 n5 n6 s1 s2 s3 s4 s5 hgrow hown'
  have HF := Lib.hid (And.intro d5 (s7.trans d6))
  obtain ⟨gg, gcap, rfl⟩ : ∃ g cap, v' = .slice (some ⟨g, 0, none⟩) (ms.length + 1) cap := by
    rcases hown'.2 with hx | ⟨g, cap, cur, hv, _⟩
    · exact absurd hx.2 (by omega)
    · exact ⟨g, cap, hv⟩
  clear s1 s2 s3 s4 s5 s6 s7 d5 d6 HS hgrow hown' c4 z0 z1 z2 z3 z4 z5 z6 z7 hs3 HI H
  go_wp2_with fail
  refine leaves_cons (f := 10) (args := #[.pointer (some ⟨bu, 0, none⟩)]) (by simp) (by simp [go_sem]) ?_
  refine (unlock_deferred Tryf.muLib ⟨bu, 0, none⟩ .returning _ ?_ ?_).mono ?_
  · rw [World.cell?_setCell_other _ _ _ _ (by intro e; cases e; exact n4 rfl)]; exact d3
  · simp [d4]
  rintro e u' w'' ⟨rfl, rfl, rfl⟩
  exact ⟨_, results_none rfl _ _ _, rfl, HF.out.1, HF.out.2⟩

end Go.Proofs.YtbbopdkgnolpoaaFmt
