/-
  The contract of validateAlias: its good entries are kept, an error is logged just where one is dropped (for whatever function answers fmt); conditions: those that it names.
-/
import Derived.Test.YtkdkjcljdagakaaGreatFmtFsm
import Derived.Test.YtkdkjcljdagakaaGreatFmtFlt
import Derived.Test.YtkdkjcljdagakaaGreatFmtRepl
import Derived.Maps.RangeWalk
import Derived.Maps.StringElems
import Derived.StringKeys
namespace Go.Proofs.YtkdkjcljdagakaaGreatFmt
open Go.RowKit Go.Extern.Stop Go.Stop Go.Extern Go.Maps

theorem law9 : Keyed Tryz.prog 9 := string_keyed Tryz.underlying9
abbrev MapS (b n : Nat) (D : DataW Unit) (w : World) : Prop := w.ownsMap Tryz.prog 9 (plainElem Tryz.prog 9) b n D

theorem LK.grown {B bm bu bh : Nat} {a b c : World} {row : Option Nat} (h : LK B bm bu bh a b) (k : b.grownBy c row) (hr : ∀ j, row = some j → a.heap.size ≤ j) : LK B bm bu bh a c :=
  ⟨k.os.trans h.os, k.tape.trans h.tape, k.output.trans h.output, Nat.le_trans h.size k.size, fun i o hi h1 h2 h3 h4 => by
    have hb := h.block i o hi h1 h2 h3 h4
    have hlt := (Array.getElem?_eq_some_iff.1 hi).1
    rw [k.block i (Array.getElem?_eq_some_iff.1 hb).1 (fun e => by have := hr i e.symm; omega), hb]⟩
theorem LogAt.grown {B bk bm bu bh n : Nat} {he : Bool} {w w' : World} {row : Option Nat} (h : LogAt B bk bm bu bh he n w) (k : w.grownBy w' row) (hr : ∀ j, row = some j → ∀ cs t fz, w.heap[j]? ≠ some (.cells cs t fz)) : LogAt B bk bm bu bh he n w' := by
  obtain ⟨h1, h2, h3, v, xs, h4, h5⟩ := h
  have up : ∀ {b : Nat} {cs : Array Value} {t : TypeId} {fz : Nat × Nat}, w.heap[b]? = some (.cells cs t fz) → w'.heap[b]? = some (.cells cs t fz) := fun hb => by
    rw [k.block _ (Array.getElem?_eq_some_iff.1 hb).1 (fun e => hr _ e.symm _ _ _ hb), hb]
  refine ⟨up h1, up h2, up h3, v, xs, up h4, h5.kept (row := row) k ?_⟩
  rcases h5.2 with ⟨rfl, _⟩ | ⟨g, cap, cur, rfl, _, hg, _⟩
  · exact .inl rfl
  · exact .inr fun e => hr g e.symm _ _ _ hg

/-- A map is no row of cells; nor is an iterator. -/
theorem map_cells {P : Program} {k : TypeId} {R : Value → Option (DataW Unit × List MemPlace)} {b n : Nat} {D : DataW Unit} {w : World} (h : w.ownsMap P k R b n D) : ∀ cs t fz, w.heap[b]? ≠ some (.cells cs t fz) := by
  obtain ⟨es, clock, hb, _⟩ := h
  intro cs t fz e
  rw [hb] at e
  cases e
theorem iter_cells {P : Program} {k : TypeId} {R : Value → Option (DataW Unit × List MemPlace)} {b r n cnt : Nat} {D : DataW Unit} {left : Lit → Bool} {w : World} (h : w.ranges P k R b r n D left cnt) : ∀ cs t fz, w.heap[r]? ≠ some (.cells cs t fz) := by
  obtain ⟨es, clock, since, seen, c0, hb, F, hs, hD, hr, rest⟩ := h
  intro cs t fz e
  rw [hr] at e
  cases e
theorem LogAt.not_map {B bk bm bu bh n : Nat} {he : Bool} {w : World} (h : LogAt B bk bm bu bh he n w) {j : Nat} (hj : ∀ cs t fz, w.heap[j]? ≠ some (.cells cs t fz)) : j ≠ bm ∧ j ≠ bu ∧ j ≠ bh := by
  obtain ⟨h1, h2, h3, v, xs, h4, h5⟩ := h
  exact ⟨by rintro rfl; exact hj _ _ _ h4, by rintro rfl; exact hj _ _ _ h2, by rintro rfl; exact hj _ _ _ h3⟩
/-- A map, and a range under way, stand while the log is written. -/
theorem LK.map {B bk bm bu bh n he : _} {a b : World} (hl : LogAt B bk bm bu bh he n a) (h : LK B bm bu bh a b) {P : Program} {k : TypeId} {R : Value → Option (DataW Unit × List MemPlace)} {c N : Nat} {D : DataW Unit} (hm : a.ownsMap P k R c N D) : b.ownsMap P k R c N D := by
  obtain ⟨n1, n2, n3⟩ := hl.not_map (map_cells hm)
  obtain ⟨es, clock, hb, F, hs, hD⟩ := hm
  exact ⟨es, clock, h.block _ _ hb n1 n2 n3 (fun _ _ _ e => by cases e), F, hs, hD⟩
theorem LK.iter {B bk bm bu bh n he : _} {a b : World} (hl : LogAt B bk bm bu bh he n a) (h : LK B bm bu bh a b) {P : Program} {k : TypeId} {R : Value → Option (DataW Unit × List MemPlace)} {c r N cnt : Nat} {D : DataW Unit} {left : Lit → Bool} (hm : a.ranges P k R c r N D left cnt) : b.ranges P k R c r N D left cnt := by
  obtain ⟨n1, n2, n3⟩ := hl.not_map (map_cells hm.owns)
  obtain ⟨n4, n5, n6⟩ := hl.not_map (iter_cells hm)
  obtain ⟨es, clock, since, seen, c0, hb, F, hs, hD, hr, rest⟩ := hm
  exact ⟨es, clock, since, seen, c0, h.block _ _ hb n1 n2 n3 (fun _ _ _ e => by cases e), F, hs, hD, h.block _ _ hr n4 n5 n6 (fun _ _ _ e => by cases e), rest⟩

/-- The log's box: six cells. -/
abbrev BoxAt (bk bu bh bm x : Nat) (w : World) : Prop := w.heap[x]? = some (.cells #[.func (.func 23) #[] #[.pointer (some ⟨bk, 0, none⟩), .pointer (some ⟨bu, 0, none⟩), .pointer (some ⟨bh, 0, none⟩), .pointer (some ⟨bm, 0, none⟩)], .func (.func 26) #[] #[.pointer (some ⟨bu, 0, none⟩), .pointer (some ⟨bh, 0, none⟩)], .func (.func 27) #[] #[.pointer (some ⟨bu, 0, none⟩), .pointer (some ⟨bm, 0, none⟩)], .func (.func 28) #[] #[.pointer (some ⟨bu, 0, none⟩), .pointer (some ⟨bm, 0, none⟩)], .int .i8 3, .map none] 52 (0, 0))
/-- The loop of validateAlias under way: map b, what is kept in map rm, iterator r, the log's box x. -/
def VRel (B bk bm bu bh b N rm r x : Nat) (D0 : DataW Unit) (w wr : World) : Prop :=
  ∃ (left : Lit → Bool) (cnt : Nat) (Dout : DataW Unit) (he : Bool) (n : Nat), wr.ranges Tryz.prog 9 (plainElem Tryz.prog 9) b r N D0 left cnt ∧ cnt ≤ Maps.size D0 ∧
      MapS rm (Maps.size D0 - cnt) Dout wr ∧ Filt Dout D0 left ∧ (he = false ↔ AllGood D0 left) ∧ LogAt B bk bm bu bh he n wr ∧ n + cnt ≤ Maps.size D0 ∧ LK B bm bu bh w wr ∧ BoxAt bk bu bh bm x wr
theorem LogAt.not_type {B bk bm bu bh n : Nat} {he : Bool} {w : World} (h : LogAt B bk bm bu bh he n w) {j : Nat} {cs : Array Value} {t : TypeId} {fz : Nat × Nat} (hj : w.heap[j]? = some (.cells cs t fz)) (h1 : t ≠ 62) (h2 : t ≠ 69) (h3 : t ≠ 4) : j ≠ bm ∧ j ≠ bu ∧ j ≠ bh := by
  obtain ⟨g1, g2, g3, v, xs, g4, g5⟩ := h
  refine ⟨?_, ?_, ?_⟩ <;> (rintro rfl; simp_all)
theorem LK.cells {B bk bm bu bh n : Nat} {he : Bool} {a b : World} (hl : LogAt B bk bm bu bh he n a) (h : LK B bm bu bh a b) {j : Nat} {cs : Array Value} {t : TypeId} {fz : Nat × Nat} (hj : a.heap[j]? = some (.cells cs t fz)) (h1 : t ≠ 62) (h2 : t ≠ 69) (h3 : t ≠ 4) (h4 : t ≠ 76) : b.heap[j]? = some (.cells cs t fz) := by
  obtain ⟨n1, n2, n3⟩ := hl.not_type hj h1 h2 h3
  exact h.block _ _ hj n1 n2 n3 (fun _ _ _ e => by cases e; exact h4 rfl)
theorem vrel_bad {B bk bm bu bh b N rm r x n cnt cnt1 : Nat} {he : Bool} {D0 Dout : DataW Unit} {left : Lit → Bool} {w w1 w3 : World} {kl : Lit} {d : DataW Unit} (hk : WideAt.IsKeyLit kl)
    (hrg : w1.ranges Tryz.prog 9 (plainElem Tryz.prog 9) b r N D0 (fun z => left z && !z.sameKey kl) cnt1) (hc : cnt1 < cnt) (hcs : cnt ≤ Maps.size D0) (hm : MapS rm (Maps.size D0 - cnt) Dout w1) (hA : Filt Dout D0 left) (hl : left kl = true) (hat : ∀ zd, D0.atKey kl zd = d) (hg : good kl d = false)
    (hL : LogAt B bk bm bu bh he n w1) (hn : n + cnt ≤ Maps.size D0) (hK : LK B bm bu bh w w1) (hb : BoxAt bk bu bh bm x w1) (hL3 : LogAt B bk bm bu bh true (n + 1) w3) (l3 : LK B bm bu bh w1 w3) : VRel B bk bm bu bh b N rm r x D0 w w3 :=
  ⟨_, cnt1, Dout, true, n + 1, l3.iter hL hrg, by omega, (l3.map hL hm).mono (by omega), filt_bad hA hk hl hat hg, ⟨fun e => (by cases e), fun e => absurd e (allGood_bad hk hat hg)⟩, hL3, by omega, hK.trans l3, l3.cells hL hb (by decide) (by decide) (by decide) (by decide)⟩
theorem vrel_good {B bk bm bu bh b N rm r x n cnt cnt1 m : Nat} {he : Bool} {D0 Dout : DataW Unit} {left : Lit → Bool} {w w3 : World} {kl : Lit} {d : DataW Unit} (hk : WideAt.IsKeyLit kl)
    (hrg : w3.ranges Tryz.prog 9 (plainElem Tryz.prog 9) b r N D0 (fun z => left z && !z.sameKey kl) cnt1) (hc : cnt1 < cnt) (hcs : cnt ≤ Maps.size D0) (hm : MapS rm m (Dout.put kl d) w3) (hmm : m ≤ Maps.size D0 - cnt1) (hD : IsMap Dout) (hA : Filt Dout D0 left) (hG : he = false ↔ AllGood D0 left) (hat : ∀ zd, D0.atKey kl zd = d) (hg : good kl d = true)
    (hL : LogAt B bk bm bu bh he n w3) (hn : n + cnt ≤ Maps.size D0) (hK : LK B bm bu bh w w3) (hb : BoxAt bk bu bh bm x w3) : VRel B bk bm bu bh b N rm r x D0 w w3 :=
  ⟨_, cnt1, _, he, n, hrg, by omega, hm.mono hmm, filt_good hA hD hk hat hg, hG.trans (allGood_good hk hat hg).symm, hL, by omega, hK, hb⟩

def ValPost (B bk bm bu bh : Nat) (D0 : DataW Unit) (w : World) (e : Ending) (w' : World) : Prop :=
  ∃ r Dout n' he, e = .returned (.map (some r)) ∧ w.heap.size ≤ r ∧ MapS r (Maps.size D0) Dout w' ∧ Kept Dout D0 ∧ (he = false ↔ ∀ k, has D0 k = true → good k (D0.atKey k .nil) = true) ∧ LogAt B bk bm bu bh he n' w' ∧ n' ≤ Maps.size D0 ∧ LK B bm bu bh w w'

theorem run_makeMap_hint {P : Program} (t k e : TypeId) (ht : P.underlying t = some (.map k e)) (n : Int) (w : World) : (Instr.makeMap t (some (.int .i64 n))).run P w = .ok (.map (some w.heap.size)) (w.alloc (.map #[] 0)) := by
  simp [Instr.makeMap, run_underlying ht, asInt, go_sem]

theorem meth_isAbs (b : Nat) (w : World) : (method 327 92 (.pointer (some ⟨b, 0, none⟩)) "IsAbs").run Tryz.prog w = .ok (137, .pointer (some ⟨b, 0, none⟩)) w := by kernel_rfl
theorem kInv : ∀ key kl, keyOf Tryz.prog 9 key = some kl → ∃ x : ByteArray, key = .string x := by
  intro key kl h
  obtain ⟨s, rfl, _⟩ := Go.WideMaps.string_of_keyOf Tryz.underlying9 h
  exact ⟨s, rfl⟩
theorem vInv : ∀ v (y : DataW Unit × List MemPlace), plainElem Tryz.prog 9 v = some y → ∃ c : ByteArray, v = .string c := by
  intro v y h
  obtain ⟨s, rfl, _⟩ := plainElem_string_inv Tryz.underlying9 h
  exact ⟨s, rfl⟩

set_option maxHeartbeats 4000000 in
set_option maxRecDepth 100000 in
theorem alias_any (F : Interp) (B bk bm bu bh b N mk : Nat) (mcs : Array Value) (D0 : DataW Unit) (w : World) (hF : F.answers w.tape) (hlog : LogAt B bk bm bu bh false 0 w) (hB : B ≤ w.heap.size) (hm : MapS b N D0 w) (hN : Maps.size D0 ≤ 4096)
    (hmk : w.heap[mk]? = some (.cells mcs 94 (0, 0))) (hmc : mcs[4]? = some (.int .u8 0)) (hk : ∀ k : ByteArray, has D0 (.string k.data.toList) = true → k.size ≤ 1048576) :
    Calls Tryz.prog 21 #[logV bk bu bh bm, .iface 92 (.pointer (some ⟨mk, 0, none⟩)), .map (some b)] w (ValPost B bk bm bu bh D0 w) := by
  unfold logV
  go_enter Tryz.func21, Tryz.ntmps21
  go_upto_region 1 with fail
  obtain ⟨W, hW⟩ : ∃ W, W = w.alloc (.cells #[.func (.func 23) #[] #[.pointer (some ⟨bk, 0, none⟩), .pointer (some ⟨bu, 0, none⟩), .pointer (some ⟨bh, 0, none⟩), .pointer (some ⟨bm, 0, none⟩)], .func (.func 26) #[] #[.pointer (some ⟨bu, 0, none⟩), .pointer (some ⟨bh, 0, none⟩)], .func (.func 27) #[] #[.pointer (some ⟨bu, 0, none⟩), .pointer (some ⟨bm, 0, none⟩)], .func (.func 28) #[] #[.pointer (some ⟨bu, 0, none⟩), .pointer (some ⟨bm, 0, none⟩)], .int .i8 3, .map none] 52) := ⟨_, rfl⟩
  have hbx : W.heap[w.heap.size]? = some (.cells #[.func (.func 23) #[] #[.pointer (some ⟨bk, 0, none⟩), .pointer (some ⟨bu, 0, none⟩), .pointer (some ⟨bh, 0, none⟩), .pointer (some ⟨bm, 0, none⟩)], .func (.func 26) #[] #[.pointer (some ⟨bu, 0, none⟩), .pointer (some ⟨bh, 0, none⟩)], .func (.func 27) #[] #[.pointer (some ⟨bu, 0, none⟩), .pointer (some ⟨bm, 0, none⟩)], .func (.func 28) #[] #[.pointer (some ⟨bu, 0, none⟩), .pointer (some ⟨bm, 0, none⟩)], .int .i8 3, .map none] 52 (0, 0)) := by rw [hW]; exact heap_alloc_new w _
  have hsz : W.heap.size = w.heap.size + 1 := by rw [hW]; simp
  have hbel : Below w.heap.size w W := by rw [hW]; exact (Below.refl _ _).alloc (Nat.le_refl _) _
  rw [← hW]
  have hmW : MapS b N D0 W := by rw [hW]; exact hm.alloc _
  have hlW := hlog.kept hB hbel
  have hlen := fun ty => hmW.len Tryz.underlying26 ty
  have hmk1 := run_makeMap_hint (P := Tryz.prog) 26 _ _ Tryz.underlying26 (Maps.size D0 : Int) W
  have HH := Lib.hid (And.intro hbx (And.intro hbel (And.intro hmW (And.intro hlW (And.intro hsz (And.intro hB (And.intro hF (And.intro hmk (And.intro hmc hk)))))))))
  have hbb := hm.lt
  have HL0 := Lib.hid hlog
  clear hW hbx hbel hmW hlW hm hlog hF hmk hmc hk hB
  go_upto_region 2 with fail
  clear hlen hmk1
  obtain ⟨W2, hW2⟩ : ∃ W2, W2 = W.alloc (.map #[] 0) := ⟨_, rfl⟩
  have hmm : MapS (w.heap.size + 1) 0 (.map []) W2 := by rw [hW2, ← hsz]; exact World.ownsMap_made _ _ _ _
  have hb2 : Below W.heap.size W W2 := by rw [hW2]; exact (Below.refl _ _).alloc (Nat.le_refl _) _
  have hm2 : MapS b N D0 W2 := by rw [hW2]; exact HH.out.2.2.1.alloc _
  have hl2 := HH.out.2.2.2.1.kept (by rw [hsz]; have := HH.out.2.2.2.2.2.1; omega) hb2
  have hs2 : W2.heap.size = w.heap.size + 1 + 1 := by rw [hW2, ← hsz]; simp
  have hbx2 := (hb2.block w.heap.size (by omega)).trans HH.out.1
  have hk2 : LK B bm bu bh w W2 := LK.below (HH.out.2.1.trans (hb2.mono (by omega)))
  rw [← hW2]
  clear hW2
  have H2 := Lib.hid (And.intro hmm (And.intro hl2 (And.intro hbx2 hk2)))
  clear hmm hl2 hbx2 hk2 hb2
  go_wp2_with (first
    | (at_range; refine wpList_range_own _ rfl _ 26 rfl 9 9 law9 Tryz.underlying26 _ b N _ rfl hm2 ?_; intro w0 hrg0 hg0 hs0)
    | go_in)
  go_frame
  rw [hs2] at hrg0 hs0 ⊢
  have hl0 := H2.out.2.1.grown hg0 (by simp)
  have hm0 : MapS (w.heap.size + 1) 0 (.map []) w0 := H2.out.1.kept hg0 (by simp)
  have hbx0 := (hg0.block w.heap.size (by omega) (by simp)).trans H2.out.2.2.1
  have hk0 := H2.out.2.2.2.grown hg0 (by simp)
  have H0 := Lib.hid (And.intro hrg0 (And.intro hm0 (And.intro hl0 (And.intro hbx0 hk0))))
  clear hrg0 hm0 hl0 hbx0 hk0 hg0 hm2 hs2
  go_loopw [] (fun wr => VRel B bk bm bu bh b N (w.heap.size + 1) (w.heap.size + 1 + 1) w.heap.size D0 w wr)
    (fun wr => wr.rangeLeft b (w.heap.size + 1 + 1))
  case atStart => exact ⟨_, _, .map [], false, 0, H0.out.1, Nat.le_refl _, H0.out.2.1.mono (Nat.zero_le _), filt_start D0, ⟨fun _ => allGood_start D0, fun _ => rfl⟩, H0.out.2.2.1, by omega, H0.out.2.2.2.2, H0.out.2.2.2.1⟩
  case round =>
    obtain ⟨left, cnt, Dout, he, n, hrg, hcs, hout, hA, hG, hL, hn, hK, hbx⟩ := hrel
    have HR := Lib.hid (And.intro hout (And.intro hA (And.intro hG (And.intro hL (And.intro hK hbx)))))
    have hbt := hrg.lt
    clear hout hA hG hL hK hbx
    go_wp2_with (first
      | (at_next; refine wpList_next_ranges _ rfl _ rfl 9 law9 (plainElem Tryz.prog 9) (Value.string : ByteArray → Value) (Value.string : ByteArray → Value) kInv vInv b (w.heap.size + 1 + 1) N _ _ _ rfl hrg ?_ ?_)
      | go_in)
    · intro hc0 hl0
      go_wp2
      go_ret
      subst hc0
      exact ⟨_, Dout, n, he, rfl, by omega, HR.out.1, filt_end HR.out.2.1 hl0, HR.out.2.2.1.trans (allGood_end hl0), HR.out.2.2.2.1, by omega, HR.out.2.2.2.2.1⟩
    · intro x c kl yd yp w1 cnt1 hkey hlk hv hat hrg1 hlt hg1 hs1 hen
      obtain ⟨x', ex, rfl, hxm⟩ := Go.WideMaps.string_of_keyOf Tryz.underlying9 hkey
      cases ex
      obtain ⟨c', ec, ey, hcm⟩ := plainElem_string_inv Tryz.underlying9 hv
      cases ec
      cases ey
      have hx : x.size ≤ 1048576 := HH.out.2.2.2.2.2.2.2.2.2 x (has_true_of_atKey hat)
      have hl1 := HR.out.2.2.2.1.grown hg1 (fun j hj => by cases hj; exact iter_cells hrg)
      have hm1 := HR.out.1.kept hg1 (by simp)
      have hk1 := HR.out.2.2.2.2.1.grown hg1 (fun j hj => by cases hj; omega)
      have hb1 := (hg1.block w.heap.size (by omega) (by simp; omega)).trans HR.out.2.2.2.2.2
      have H1 := Lib.hid (And.intro hrg1 (And.intro hm1 (And.intro hl1 (And.intro hk1 (And.intro hb1 (And.intro hkey (And.intro hlk (And.intro hv hat))))))))
      have hs1' : w.heap.size + 1 + 1 < w1.heap.size := by omega
      clear hrg1 hm1 hl1 hk1 hb1 hkey hlk hv hat hg1 hs1
      by_cases hc : c.data.toList = []
      · have hc2 : c.toList.isEmpty = true := by rw [Lib.toList_data, hc]; rfl
        have hg : good (.string x.data.toList) (.lit (.string c.data.toList)) = false := by rw [hc]; rfl
        go_upto_region 6 with fail
        have hF1 : F.answers w1.tape := by rw [H1.out.2.2.2.1.tape]; exact HH.out.2.2.2.2.2.2.1
        have hF' := answers_open hF1
        have k1 := call36
        have k2 := guard
        have k3 := fmtS
        have k4 := fmtSr
        have k5 := op9_113
        have q0 := Lib.cell_of_heap H1.out.2.2.2.2.1 0
        have q1 := Lib.cell_of_heap H1.out.2.2.2.2.1 1
        have q2 := Lib.cell_of_heap H1.out.2.2.2.2.1 2
        have q3 := Lib.cell_of_heap H1.out.2.2.2.2.1 3
        have q4 := Lib.cell_of_heap H1.out.2.2.2.2.1 4
        have q5 := Lib.cell_of_heap H1.out.2.2.2.2.1 5
        simp only [List.getElem?_toArray, List.getElem?_cons_zero, List.getElem?_cons_succ] at q0 q1 q2 q3 q4 q5
        have hn1 : n ≤ 65536 := by omega
        have hB1 : B ≤ w1.heap.size := by have := HH.out.2.2.2.2.2.1; omega
        have n0 : w.heap.size < w1.heap.size := by omega
        go_region_with (go_at_call 35; refine (add_error B bk bm bu bh n he _ _ (by first | exact H1.out.2.2.1.kept hB1 ((Below.refl _ _).alloc (Nat.le_refl _) _).drew.drew | exact H1.out.2.2.1.kept hB1 ((Below.refl _ _).alloc (Nat.le_refl _) _).drew | exact H1.out.2.2.1.kept hB1 ((Below.refl _ _).alloc (Nat.le_refl _) _)) (by simp; omega) hn1).mono ?_; rintro e w3 ⟨rfl, hL3, hfmtS⟩)
        all_goals
          have l3 : LK B bm bu bh w1 w3 := by first | exact (LK.below ((Below.refl _ _).alloc (Nat.le_refl _) _).drew.drew).trans hfmtS | exact (LK.below ((Below.refl _ _).alloc (Nat.le_refl _) _).drew).trans hfmtS | exact (LK.below ((Below.refl _ _).alloc (Nat.le_refl _) _)).trans hfmtS
          clear hF' hF1 k1 k2 k3 k4 k5 q0 q1 q2 q3 q4 q5 hfmtS
          go_wp2_with fail
          go_roundw
          case rel => exact vrel_bad (by simp [WideAt.IsKeyLit]) H1.out.1 hlt hcs H1.out.2.1 HR.out.2.1 H1.out.2.2.2.2.2.2.1 H1.out.2.2.2.2.2.2.2.2 hg H1.out.2.2.1 hn H1.out.2.2.2.1 H1.out.2.2.2.2.1 hL3 l3
          case measure => rw [(l3.iter H1.out.2.2.1 H1.out.1).left_eq, hrg.left_eq]; exact hlt
      · have hc2 : c.toList.isEmpty = false := by
          rw [Lib.toList_data]
          cases hcc : c.data.toList with
          | nil => exact absurd hcc hc
          | cons => rfl
        have hgv : goodV (.lit (.string c.data.toList)) = true := by
          cases hcc : c.data.toList with
          | nil => exact absurd hcc hc
          | cons => rfl
        go_upto_region 7 with fail
        cases p1 : Lib.hasPrefix x.data.toList [46] with
        | true =>
          have hg : good (.string x.data.toList) (.lit (.string c.data.toList)) = false := by
            show (goodV _ && okB x.data.toList) = false
            unfold okB
            rw [p1, hgv]
            rfl
          have hp1 : Lib.hasPrefix x.data.toList (⟨#[46]⟩ : ByteArray).data.toList = true := p1
          go_wp2_with fail
          refine (Tryz.strings_HasPrefix x ⟨#[46]⟩ _).mono ?_
          rintro e w' ⟨rfl, rfl⟩
          rw [hp1]
          clear hp1
          go_upto_region 9 with fail
          have hF1 : F.answers w'.tape := by rw [H1.out.2.2.2.1.tape]; exact HH.out.2.2.2.2.2.2.1
          have hF' := answers_open hF1
          have k1 := call36
          have k2 := guard
          have k3 := fmtN
          have k4 := fmtNr
          have k5 := op9_113
          have q0 := Lib.cell_of_heap H1.out.2.2.2.2.1 0
          have q1 := Lib.cell_of_heap H1.out.2.2.2.2.1 1
          have q2 := Lib.cell_of_heap H1.out.2.2.2.2.1 2
          have q3 := Lib.cell_of_heap H1.out.2.2.2.2.1 3
          have q4 := Lib.cell_of_heap H1.out.2.2.2.2.1 4
          have q5 := Lib.cell_of_heap H1.out.2.2.2.2.1 5
          simp only [List.getElem?_toArray, List.getElem?_cons_zero, List.getElem?_cons_succ] at q0 q1 q2 q3 q4 q5
          have hn1 : n ≤ 65536 := by omega
          have hB1 : B ≤ w'.heap.size := by have := HH.out.2.2.2.2.2.1; omega
          have n0 : w.heap.size < w'.heap.size := by omega
          go_region_with (go_at_call 35; refine (add_error B bk bm bu bh n he _ _ (by first | exact H1.out.2.2.1.kept hB1 ((Below.refl _ _).alloc (Nat.le_refl _) _).drew.drew | exact H1.out.2.2.1.kept hB1 ((Below.refl _ _).alloc (Nat.le_refl _) _).drew | exact H1.out.2.2.1.kept hB1 ((Below.refl _ _).alloc (Nat.le_refl _) _)) (by simp; omega) hn1).mono ?_; rintro e w3 ⟨rfl, hL3, hfmtN⟩)
          all_goals
            have l3 : LK B bm bu bh w' w3 := by first | exact (LK.below ((Below.refl _ _).alloc (Nat.le_refl _) _).drew.drew).trans hfmtN | exact (LK.below ((Below.refl _ _).alloc (Nat.le_refl _) _).drew).trans hfmtN | exact (LK.below ((Below.refl _ _).alloc (Nat.le_refl _) _)).trans hfmtN
            clear hF' hF1 k1 k2 k3 k4 k5 q0 q1 q2 q3 q4 q5 hfmtN
            go_wp2_with fail
            go_roundw
            case rel => exact vrel_bad (by simp [WideAt.IsKeyLit]) H1.out.1 hlt hcs H1.out.2.1 HR.out.2.1 H1.out.2.2.2.2.2.2.1 H1.out.2.2.2.2.2.2.2.2 hg H1.out.2.2.1 hn H1.out.2.2.2.1 H1.out.2.2.2.2.1 hL3 l3
            case measure => rw [(l3.iter H1.out.2.2.1 H1.out.1).left_eq, hrg.left_eq]; exact hlt
        | false =>
          have hp1 : Lib.hasPrefix x.data.toList (⟨#[46]⟩ : ByteArray).data.toList = false := p1
          cases p2 : Lib.hasPrefix x.data.toList [47] with
          | true =>
            have hg : good (.string x.data.toList) (.lit (.string c.data.toList)) = false := by
              show (goodV _ && okB x.data.toList) = false
              unfold okB
              rw [p1, p2, hgv]
              rfl
            have hp2 : Lib.hasPrefix x.data.toList (⟨#[47]⟩ : ByteArray).data.toList = true := p2
            go_wp2_with fail
            refine (Tryz.strings_HasPrefix x ⟨#[46]⟩ _).mono ?_
            rintro e w' ⟨rfl, rfl⟩
            rw [hp1]
            go_wp2_with fail
            refine (Tryz.strings_HasPrefix x ⟨#[47]⟩ _).mono ?_
            rintro e w2 ⟨rfl, rfl⟩
            rw [hp2]
            clear hp1 hp2
            go_upto_region 9 with fail
            have hF1 : F.answers w2.tape := by rw [H1.out.2.2.2.1.tape]; exact HH.out.2.2.2.2.2.2.1
            have hF' := answers_open hF1
            have k1 := call36
            have k2 := guard
            have k3 := fmtN
            have k4 := fmtNr
            have k5 := op9_113
            have q0 := Lib.cell_of_heap H1.out.2.2.2.2.1 0
            have q1 := Lib.cell_of_heap H1.out.2.2.2.2.1 1
            have q2 := Lib.cell_of_heap H1.out.2.2.2.2.1 2
            have q3 := Lib.cell_of_heap H1.out.2.2.2.2.1 3
            have q4 := Lib.cell_of_heap H1.out.2.2.2.2.1 4
            have q5 := Lib.cell_of_heap H1.out.2.2.2.2.1 5
            simp only [List.getElem?_toArray, List.getElem?_cons_zero, List.getElem?_cons_succ] at q0 q1 q2 q3 q4 q5
            have hn1 : n ≤ 65536 := by omega
            have hB1 : B ≤ w2.heap.size := by have := HH.out.2.2.2.2.2.1; omega
            have n0 : w.heap.size < w2.heap.size := by omega
            go_region_with (go_at_call 35; refine (add_error B bk bm bu bh n he _ _ (by first | exact H1.out.2.2.1.kept hB1 ((Below.refl _ _).alloc (Nat.le_refl _) _).drew.drew | exact H1.out.2.2.1.kept hB1 ((Below.refl _ _).alloc (Nat.le_refl _) _).drew | exact H1.out.2.2.1.kept hB1 ((Below.refl _ _).alloc (Nat.le_refl _) _)) (by simp; omega) hn1).mono ?_; rintro e w3 ⟨rfl, hL3, hfmtN⟩)
            all_goals
              have l3 : LK B bm bu bh w2 w3 := by first | exact (LK.below ((Below.refl _ _).alloc (Nat.le_refl _) _).drew.drew).trans hfmtN | exact (LK.below ((Below.refl _ _).alloc (Nat.le_refl _) _).drew).trans hfmtN | exact (LK.below ((Below.refl _ _).alloc (Nat.le_refl _) _)).trans hfmtN
              clear hF' hF1 k1 k2 k3 k4 k5 q0 q1 q2 q3 q4 q5 hfmtN
              go_wp2_with fail
              go_roundw
              case rel => exact vrel_bad (by simp [WideAt.IsKeyLit]) H1.out.1 hlt hcs H1.out.2.1 HR.out.2.1 H1.out.2.2.2.2.2.2.1 H1.out.2.2.2.2.2.2.2.2 hg H1.out.2.2.1 hn H1.out.2.2.2.1 H1.out.2.2.2.2.1 hL3 l3
              case measure => rw [(l3.iter H1.out.2.2.1 H1.out.1).left_eq, hrg.left_eq]; exact hlt
          | false =>
            have hp2 : Lib.hasPrefix x.data.toList (⟨#[47]⟩ : ByteArray).data.toList = false := p2
            have hmk := HH.out.2.2.2.2.2.2.2.1
            have hmk1 := H1.out.2.2.2.1.cells HL0.out hmk (by decide) (by decide) (by decide) (by decide)
            have c4 : w1.cell? ⟨mk, 4, none⟩ = some (.int .u8 0) := (Lib.cell_of_heap hmk1 4).trans HH.out.2.2.2.2.2.2.2.2.1
            have hia : Lib.Pa.isAbs x.data.toList = false := by
              rw [← p2, pre1]
              rfl
            clear hmk hmk1
            go_wp2_with fail
            refine (Tryz.strings_HasPrefix x ⟨#[46]⟩ _).mono ?_
            rintro e w' ⟨rfl, rfl⟩
            rw [hp1]
            go_wp2_with fail
            refine (Tryz.strings_HasPrefix x ⟨#[47]⟩ _).mono ?_
            rintro e w2 ⟨rfl, rfl⟩
            rw [hp2]
            clear hp1 hp2
            have hme := meth_isAbs mk
            go_wp2_with (go_at_call 137; refine (isAbs_any mk x _ c4).mono ?_; rintro e w4 ⟨rfl, rfl⟩)
            have hxl : x.data.toList.length ≤ 1048576 := by rw [← Lib.size_eq]; exact hx
            have hbase : w.heap.size + 1 + 1 < w2.heap.size := by omega
            clear c4 hme hia
            refine (replaceAll_any x ⟨#[92]⟩ ⟨#[47]⟩ _ (by decide) (by decide) (by rw [show (⟨#[47]⟩ : ByteArray).size = 1 from rfl]; omega) (by decide)).mono ?_
            rintro e w5 ⟨rfl, hb5⟩
            have er : S (repl (⟨#[92]⟩ : ByteArray).data.toList (⟨#[47]⟩ : ByteArray).data.toList x.size x.data.toList) = S (r92 x.data.toList) := congrArg S (repl_r92 _ _ (by rw [Lib.size_eq]; exact Nat.le_refl _))
            rw [er]
            clear er
            have hz5 := hb5.size
            go_wp2_with fail
            refine (Tryz.path_Clean (S (r92 x.data.toList)) _ (by rw [S_size, r92, List.length_map]; omega)).mono ?_
            rintro e w6 ⟨rfl, hb6⟩
            have hz6 := hb6.size
            have hb26 := hb5.trans (hb6.mono hz5)
            rw [S_data]
            have hB2 : B ≤ w2.heap.size := by have := HH.out.2.2.2.2.2.1; omega
            have hg26 : w2.grownBy w6 none := ⟨hb26.os, hb26.tape, hb26.output, hb26.size, fun k hk _ => hb26.block k hk⟩
            have H6 := Lib.hid (And.intro (H1.out.1.kept hg26 (by simp) (by simp)) (And.intro (H1.out.2.1.kept hg26 (by simp)) (And.intro (H1.out.2.2.1.kept hB2 hb26) (And.intro (H1.out.2.2.2.1.trans (LK.below hb26)) (And.intro ((hb26.block w.heap.size (by omega)).trans H1.out.2.2.2.2.1) (And.intro H1.out.2.2.2.2.2.1 (And.intro H1.out.2.2.2.2.2.2.1 (And.intro H1.out.2.2.2.2.2.2.2.1 H1.out.2.2.2.2.2.2.2.2))))))))
            clear hb5 hb6 hb26 hg26
            by_cases hq : Lib.Pa.clean (r92 x.data.toList) = x.data.toList
            · have hg : good (.string x.data.toList) (.lit (.string c.data.toList)) = true := by
                show (goodV _ && okB x.data.toList) = true
                unfold okB
                rw [p1, p2, hgv, hq]
                simp
              have hqx : S (Lib.Pa.clean (r92 x.data.toList)) = x := by rw [hq, S_L]
              rw [show (⟨(Lib.Pa.clean (r92 x.data.toList)).toArray⟩ : ByteArray) = x from hqx]
              go_upto_region 8 with fail
              have hmx : Maps.size D0 - cnt < maxLen := by unfold maxLen; omega
              go_wp2_with (first
                | (at_mapUpdate; refine wpList_mapUpdate_own _ rfl _ _ _ 26 rfl 9 9 law9 Tryz.underlying26 _ (w.heap.size + 1) _ _ rfl H6.out.2.1 hmx _ _ _ rfl rfl H6.out.2.2.2.2.2.1 _ [] H6.out.2.2.2.2.2.2.2.1 ?_; intro w7 hout7 hg7; go_frame)
                | go_in)
              have hrg7 := H6.out.1.kept hg7 (by simp; omega) (by simp)
              go_roundw
              case rel => exact vrel_good (by simp [WideAt.IsKeyLit]) hrg7 hlt hcs hout7 (by omega) H6.out.2.1.isMap HR.out.2.1 HR.out.2.2.1 H6.out.2.2.2.2.2.2.2.2 hg (H6.out.2.2.1.grown hg7 (fun j hj => by cases hj; exact map_cells H6.out.2.1)) hn (H6.out.2.2.2.1.grown hg7 (fun j hj => by cases hj; omega)) ((hg7.block w.heap.size (by omega) (by simp)).trans H6.out.2.2.2.2.1)
              case measure => rw [hrg7.left_eq, hrg.left_eq]; exact hlt
            · have hg : good (.string x.data.toList) (.lit (.string c.data.toList)) = false := by
                show (goodV _ && okB x.data.toList) = false
                unfold okB
                rw [p1, p2, hgv]
                simpa using hq
              obtain ⟨T, hT⟩ : ∃ T, (⟨(Lib.Pa.clean (r92 x.data.toList)).toArray⟩ : ByteArray) = T := ⟨_, rfl⟩
              have hTx : (T.toList == x.toList) = false := by
                rw [beq_eq_false_iff_ne, ← hT, Lib.toList_data, Lib.toList_data]
                simpa using hq
              rw [hT]
              clear hT
              go_upto_region 9 with fail
              have hF1 : F.answers w6.tape := by rw [H6.out.2.2.2.1.tape]; exact HH.out.2.2.2.2.2.2.1
              have hF' := answers_open hF1
              have k1 := call36
              have k2 := guard
              have k3 := fmtN
              have k4 := fmtNr
              have k5 := op9_113
              have q0 := Lib.cell_of_heap H6.out.2.2.2.2.1 0
              have q1 := Lib.cell_of_heap H6.out.2.2.2.2.1 1
              have q2 := Lib.cell_of_heap H6.out.2.2.2.2.1 2
              have q3 := Lib.cell_of_heap H6.out.2.2.2.2.1 3
              have q4 := Lib.cell_of_heap H6.out.2.2.2.2.1 4
              have q5 := Lib.cell_of_heap H6.out.2.2.2.2.1 5
              simp only [List.getElem?_toArray, List.getElem?_cons_zero, List.getElem?_cons_succ] at q0 q1 q2 q3 q4 q5
              have hn1 : n ≤ 65536 := by omega
              have hB1 : B ≤ w6.heap.size := by have := HH.out.2.2.2.2.2.1; omega
              have n0 : w.heap.size < w6.heap.size := by omega
              go_region_with (go_at_call 35; refine (add_error B bk bm bu bh n he _ _ (by first | exact H6.out.2.2.1.kept hB1 ((Below.refl _ _).alloc (Nat.le_refl _) _).drew.drew | exact H6.out.2.2.1.kept hB1 ((Below.refl _ _).alloc (Nat.le_refl _) _).drew | exact H6.out.2.2.1.kept hB1 ((Below.refl _ _).alloc (Nat.le_refl _) _)) (by simp; omega) hn1).mono ?_; rintro e w3 ⟨rfl, hL3, hfmtN⟩)
              all_goals
                have l3 : LK B bm bu bh w6 w3 := by first | exact (LK.below ((Below.refl _ _).alloc (Nat.le_refl _) _).drew.drew).trans hfmtN | exact (LK.below ((Below.refl _ _).alloc (Nat.le_refl _) _).drew).trans hfmtN | exact (LK.below ((Below.refl _ _).alloc (Nat.le_refl _) _)).trans hfmtN
                clear hF' hF1 k1 k2 k3 k4 k5 q0 q1 q2 q3 q4 q5 hfmtN
                go_wp2_with fail
                go_roundw
                case rel => exact vrel_bad (by simp [WideAt.IsKeyLit]) H6.out.1 hlt hcs H6.out.2.1 HR.out.2.1 H6.out.2.2.2.2.2.2.1 H6.out.2.2.2.2.2.2.2.2 hg H6.out.2.2.1 hn H6.out.2.2.2.1 H6.out.2.2.2.2.1 hL3 l3
                case measure => rw [(l3.iter H6.out.2.2.1 H6.out.1).left_eq, hrg.left_eq]; exact hlt
end Go.Proofs.YtkdkjcljdagakaaGreatFmt
