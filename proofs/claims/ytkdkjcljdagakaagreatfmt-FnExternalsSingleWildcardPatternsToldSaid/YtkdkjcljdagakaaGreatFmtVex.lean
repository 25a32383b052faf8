/-
  The contract of validateExternals: what it has said of the texts, in a loop relation (for whatever function answers fmt); conditions: those that it names.
-/
import Derived.Test.YtkdkjcljdagakaaGreatFmtSdp
import Derived.Test.YtkdkjcljdagakaaGreatFmtGdx
import Derived.Deep.RegionHeld3
import Derived.Deep.Cut
import Derived.Deep.LoopGhost
import Derived.Deep.RegionLaw
import Derived.IntWalk
namespace Go.Proofs.YtkdkjcljdagakaaGreatFmt
open Go.RowKit Go.Extern.Stop Go.Stop Go.Extern Go.Maps

theorem ex_start {B bk bm bu bh : Nat} {w : World} (hlog : LogAt B bk bm bu bh false 0 w) (hB : B ≤ w.heap.size) {W : World}
    (hW : W = ((((w.alloc (.cells #[.func (.func 23) #[] #[.pointer (some ⟨bk, 0, none⟩), .pointer (some ⟨bu, 0, none⟩), .pointer (some ⟨bh, 0, none⟩), .pointer (some ⟨bm, 0, none⟩)], .func (.func 26) #[] #[.pointer (some ⟨bu, 0, none⟩), .pointer (some ⟨bh, 0, none⟩)], .func (.func 27) #[] #[.pointer (some ⟨bu, 0, none⟩), .pointer (some ⟨bm, 0, none⟩)], .func (.func 28) #[] #[.pointer (some ⟨bu, 0, none⟩), .pointer (some ⟨bm, 0, none⟩)], .int .i8 3, .map none] 52)).alloc (.cells #[.map none, .slice none 0 0, .map none, .slice none 0 0] 36)).alloc (.map #[] 0)).alloc (.map #[] 0)).alloc (.cells #[.map (some (w.heap.size + 1 + 1)), .slice none 0 0, .map (some (w.heap.size + 1 + 1 + 1)), .slice none 0 0] 36)) :
    EX B bk bm bu bh w.heap.size false 0 0 0 (.map []) (.map []) (.slice none 0 0) 0 [] (.slice none 0 0) 0 [] W ∧ Below w.heap.size w W ∧ W.heap.size = w.heap.size + 5 := by
  obtain ⟨w1, hw1⟩ : ∃ w1, w1 = w.alloc (.cells #[.func (.func 23) #[] #[.pointer (some ⟨bk, 0, none⟩), .pointer (some ⟨bu, 0, none⟩), .pointer (some ⟨bh, 0, none⟩), .pointer (some ⟨bm, 0, none⟩)], .func (.func 26) #[] #[.pointer (some ⟨bu, 0, none⟩), .pointer (some ⟨bh, 0, none⟩)], .func (.func 27) #[] #[.pointer (some ⟨bu, 0, none⟩), .pointer (some ⟨bm, 0, none⟩)], .func (.func 28) #[] #[.pointer (some ⟨bu, 0, none⟩), .pointer (some ⟨bm, 0, none⟩)], .int .i8 3, .map none] 52) := ⟨_, rfl⟩
  have s1 : w1.heap.size = w.heap.size + 1 := by rw [hw1]; simp
  have x1 : BoxAt bk bu bh bm w.heap.size w1 := by rw [hw1]; exact heap_alloc_new w _
  rw [← hw1] at hW
  obtain ⟨w2, hw2⟩ : ∃ w2, w2 = w1.alloc (.cells #[.map none, .slice none 0 0, .map none, .slice none 0 0] 36) := ⟨_, rfl⟩
  have s2 : w2.heap.size = w.heap.size + 2 := by rw [hw2]; simp [s1]
  have x2 : w2.heap[w.heap.size + 1]? = some (.cells #[.map none, .slice none 0 0, .map none, .slice none 0 0] 36 (0, 0)) := by rw [hw2, ← s1]; exact heap_alloc_new w1 _
  rw [← hw2] at hW
  obtain ⟨w3, hw3⟩ : ∃ w3, w3 = w2.alloc (.map #[] 0) := ⟨_, rfl⟩
  have s3 : w3.heap.size = w.heap.size + 3 := by rw [hw3]; simp [s2]
  have x3 : MapB (w.heap.size + 2) 0 (.map []) w3 := by rw [hw3, ← s2]; exact World.ownsMap_made _ _ _ _
  rw [← hw3] at hW
  obtain ⟨w4, hw4⟩ : ∃ w4, w4 = w3.alloc (.map #[] 0) := ⟨_, rfl⟩
  have s4 : w4.heap.size = w.heap.size + 4 := by rw [hw4]; simp [s3]
  have x4 : MapB (w.heap.size + 3) 0 (.map []) w4 := by rw [hw4, ← s3]; exact World.ownsMap_made _ _ _ _
  have x34 : MapB (w.heap.size + 2) 0 (.map []) w4 := by rw [hw4]; exact x3.alloc _
  rw [← hw4] at hW
  have s5 : W.heap.size = w.heap.size + 5 := by rw [hW]; simp [s4]
  have x5 : W.heap[w.heap.size + 4]? = some (.cells #[.map (some (w.heap.size + 2)), .slice none 0 0, .map (some (w.heap.size + 3)), .slice none 0 0] 36 (0, 0)) := by rw [hW, ← s4]; exact heap_alloc_new w4 _
  have b1 : Below w.heap.size w w1 := by rw [hw1]; exact (Below.refl _ _).alloc (Nat.le_refl _) _
  have b2 : Below w1.heap.size w1 w2 := by rw [hw2]; exact (Below.refl _ _).alloc (Nat.le_refl _) _
  have b3 : Below w2.heap.size w2 w3 := by rw [hw3]; exact (Below.refl _ _).alloc (Nat.le_refl _) _
  have b4 : Below w3.heap.size w3 w4 := by rw [hw4]; exact (Below.refl _ _).alloc (Nat.le_refl _) _
  have b5 : Below w4.heap.size w4 W := by rw [hW]; exact (Below.refl _ _).alloc (Nat.le_refl _) _
  have b45 := b4.trans (b5.mono (by omega))
  have b35 := b3.trans (b45.mono (by omega))
  have b25 := b2.trans (b35.mono (by omega))
  have b15 := b1.trans (b25.mono (by omega))
  refine ⟨⟨hlog.kept hB b15, (b25.block _ (by omega)).trans x1, (b35.block _ (by omega)).trans x2, x5, by rw [hW]; exact x34.alloc _, by rw [hW]; exact x4.alloc _, ?_, ?_, .inl rfl⟩, b15, s5⟩
  · exact ⟨rfl, .inl ⟨rfl, rfl⟩⟩
  · exact ⟨rfl, .inl ⟨rfl, rfl⟩⟩

theorem EX.lt {B bk bm bu bh S nm k1 k2 n1 n2 : Nat} {he : Bool} {D1 D2 : DataW Unit} {v1 v2 : Value} {xs1 xs2 : List Value} {w : World} (h : EX B bk bm bu bh S he nm k1 k2 D1 D2 v1 n1 xs1 v2 n2 xs2 w) : S + 1 + 1 + 1 + 1 < w.heap.size := (Array.getElem?_eq_some_iff.1 h.st).1
theorem EX.cell {B bk bm bu bh S nm k1 k2 n1 n2 : Nat} {he : Bool} {D1 D2 : DataW Unit} {v1 v2 : Value} {xs1 xs2 : List Value} {w : World} (h : EX B bk bm bu bh S he nm k1 k2 D1 D2 v1 n1 xs1 v2 n2 xs2 w) :
    w.cell? ⟨S + 1 + 1 + 1 + 1, 0, none⟩ = some (.map (some (S + 1 + 1))) ∧ w.cell? ⟨S + 1 + 1 + 1 + 1, 1, none⟩ = some v1 ∧ w.cell? ⟨S + 1 + 1 + 1 + 1, 2, none⟩ = some (.map (some (S + 1 + 1 + 1))) ∧ w.cell? ⟨S + 1 + 1 + 1 + 1, 3, none⟩ = some v2 ∧
      (∀ i, w.frozen? ⟨S + 1 + 1 + 1 + 1, i, none⟩ = false) :=
  ⟨Lib.cell_of_heap h.st 0, Lib.cell_of_heap h.st 1, Lib.cell_of_heap h.st 2, Lib.cell_of_heap h.st 3, fun i => Lib.frozen_of_heap h.st i⟩
theorem LK.set_new {B bm bu bh b i : Nat} {a w : World} (h : LK B bm bu bh a w) (hb : a.heap.size ≤ b) (v : Value) : LK B bm bu bh a (w.setCell ⟨b, i, none⟩ v) :=
  ⟨h.os, h.tape, h.output, Nat.le_trans h.size (by simp), fun k o hk h1 h2 h3 h4 => by
    have hlt := (Array.getElem?_eq_some_iff.1 hk).1
    rw [setf (by omega)]
    exact h.block k o hk h1 h2 h3 h4⟩
theorem own_ge {b n : Nat} {v : Value} {xs : List Value} {w : World} (h : w.ownsRow b 43 2 v n xs) : ∀ j, v.ownBlock = some j → b ≤ j := by
  intro j hj
  rcases h.2 with ⟨rfl, _⟩ | ⟨g, cap, cur, rfl, hb, hg, rest⟩
  · cases hj
  · have : g = j := by simpa [Value.ownBlock] using hj
    omega
/-- The settings stand while a row is appended to. -/
theorem EX.held {B bk bm bu bh S nm k1 k2 n1 n2 : Nat} {he : Bool} {D1 D2 : DataW Unit} {v1 v2 v : Value} {xs1 xs2 : List Value} {w w3 : World} (h : EX B bk bm bu bh S he nm k1 k2 D1 D2 v1 n1 xs1 v2 n2 xs2 w) {n : Nat} {xs : List Value} (hr : w.ownsRow (S + 5) 43 2 v n xs) (hg : w.grownBy w3 v.ownBlock) :
    S + 1 + 1 + 1 + 1 < w3.heap.size ∧ w3.cell? ⟨S + 1 + 1 + 1 + 1, 1, none⟩ = some v1 ∧ w3.cell? ⟨S + 1 + 1 + 1 + 1, 3, none⟩ = some v2 ∧ w3.frozen? ⟨S + 1 + 1 + 1 + 1, 1, none⟩ = false ∧ w3.frozen? ⟨S + 1 + 1 + 1 + 1, 3, none⟩ = false := by
  have hst : w3.heap[S + 4]? = _ := (hg.block _ h.lt (own43 hr h.st (by decide))).trans h.st
  exact ⟨(Array.getElem?_eq_some_iff.1 hst).1, Lib.cell_of_heap hst 1, Lib.cell_of_heap hst 3, Lib.frozen_of_heap hst 1, Lib.frozen_of_heap hst 3⟩
theorem ex_app1 {B bk bm bu bh nm k1 k2 n1 n2 g cap : Nat} {he : Bool} {D1 D2 : DataW Unit} {v1 v2 : Value} {xs1 xs2 xs1' : List Value} {w w1 w3 : World} (h : EX B bk bm bu bh w.heap.size he nm k1 k2 D1 D2 v1 n1 xs1 v2 n2 xs2 w1) (hK : LK B bm bu bh w w1) (hg : w1.grownBy w3 v1.ownBlock)
    (ho : w3.ownsRow (w.heap.size + 5) 43 2 (.slice (some ⟨g, 0, none⟩) (n1 + 1) cap) (n1 + 1) xs1') {H : Nat} (hat : v1.ownBlock = some g ∨ g = H) (hH : w1.heap.size ≤ H) :
    EX B bk bm bu bh w.heap.size he nm k1 k2 D1 D2 (.slice (some ⟨g, 0, none⟩) (n1 + 1) cap) (n1 + 1) xs1' v2 n2 xs2 (w3.setCell ⟨w.heap.size + 1 + 1 + 1 + 1, 1, none⟩ (.slice (some ⟨g, 0, none⟩) (n1 + 1) cap)) ∧ LK B bm bu bh w (w3.setCell ⟨w.heap.size + 1 + 1 + 1 + 1, 1, none⟩ (.slice (some ⟨g, 0, none⟩) (n1 + 1) cap)) := by
  refine ⟨h.app1 hg ho ?_, (hK.grown hg fun j hj => ?_).set_new (by omega) _⟩
  · rcases hat with e | e
    · exact .inl (by rw [e]; rfl)
    · refine .inr fun j hj => ?_
      have : g = j := by simpa [Value.ownBlock] using hj
      omega
  · have := own_ge h.r1 j hj
    omega
theorem ex_app2 {B bk bm bu bh nm k1 k2 n1 n2 g cap : Nat} {he : Bool} {D1 D2 : DataW Unit} {v1 v2 : Value} {xs1 xs2 xs2' : List Value} {w w1 w3 : World} (h : EX B bk bm bu bh w.heap.size he nm k1 k2 D1 D2 v1 n1 xs1 v2 n2 xs2 w1) (hK : LK B bm bu bh w w1) (hg : w1.grownBy w3 v2.ownBlock)
    (ho : w3.ownsRow (w.heap.size + 5) 43 2 (.slice (some ⟨g, 0, none⟩) (n2 + 1) cap) (n2 + 1) xs2') {H : Nat} (hat : v2.ownBlock = some g ∨ g = H) (hH : w1.heap.size ≤ H) :
    EX B bk bm bu bh w.heap.size he nm k1 k2 D1 D2 v1 n1 xs1 (.slice (some ⟨g, 0, none⟩) (n2 + 1) cap) (n2 + 1) xs2' (w3.setCell ⟨w.heap.size + 1 + 1 + 1 + 1, 3, none⟩ (.slice (some ⟨g, 0, none⟩) (n2 + 1) cap)) ∧ LK B bm bu bh w (w3.setCell ⟨w.heap.size + 1 + 1 + 1 + 1, 3, none⟩ (.slice (some ⟨g, 0, none⟩) (n2 + 1) cap)) := by
  refine ⟨h.app2 hg ho ?_, (hK.grown hg fun j hj => ?_).set_new (by omega) _⟩
  · rcases hat with e | e
    · exact .inl (by rw [e]; rfl)
    · refine .inr fun j hj => ?_
      have : g = j := by simpa [Value.ownBlock] using hj
      omega
  · have := own_ge h.r2 j hj
    omega
theorem pat_eq {p : ByteArray} {i : Nat} (h : ixB p = (i : Int)) : pat p = [.string (p.extract 0 i), .string (p.extract (i + 1) p.size)] := by
  unfold pat
  rw [h]
  rfl
theorem own_slice {b n : Nat} {v : Value} {xs : List Value} {w : World} (h : w.ownsRow b 43 2 v n xs) : ∃ a l c, v = .slice a l c := by
  rcases h.2 with ⟨rfl, _⟩ | ⟨g, cap, cur, rfl, hb, hg, rest⟩
  · exact ⟨_, _, _, rfl⟩
  · exact ⟨_, _, _, rfl⟩
theorem own_base {b b' n : Nat} {v : Value} {xs : List Value} {w : World} (h : w.ownsRow b 43 2 v n xs) (hb : b' ≤ b) : w.ownsRow b' 43 2 v n xs := by
  refine ⟨h.1, ?_⟩
  rcases h.2 with h | ⟨g, cap, cur, hv, hbase, rest⟩
  · exact .inl h
  · exact .inr ⟨g, cap, cur, hv, Nat.le_trans hb hbase, rest⟩
/-- The result's variable is set, cell by cell. -/
theorem ex_end {B bk bm bu bh nm k1 k2 n1 n2 : Nat} {he : Bool} {D1 D2 : DataW Unit} {v1 v2 : Value} {xs1 xs2 : List Value} {w wr W4 : World} (h : EX B bk bm bu bh w.heap.size he nm k1 k2 D1 D2 v1 n1 xs1 v2 n2 xs2 wr) (hK : LK B bm bu bh w wr) {m1 m2 : Value}
    (hW : W4 = (((wr.setCell ⟨w.heap.size + 1, 0, none⟩ m1).setCell ⟨w.heap.size + 1, 1, none⟩ v1).setCell ⟨w.heap.size + 1, 2, none⟩ m2).setCell ⟨w.heap.size + 1, 3, none⟩ v2) :
    (w.heap.size + 1 < W4.heap.size ∧ W4.cell? ⟨w.heap.size + 1, 0, none⟩ = some m1 ∧ W4.cell? ⟨w.heap.size + 1, 1, none⟩ = some v1 ∧ W4.cell? ⟨w.heap.size + 1, 2, none⟩ = some m2 ∧ W4.cell? ⟨w.heap.size + 1, 3, none⟩ = some v2) ∧
      MapB (w.heap.size + 2) k1 D1 W4 ∧ MapB (w.heap.size + 3) k2 D2 W4 ∧ W4.ownsRow w.heap.size 43 2 v1 n1 xs1 ∧ LogAt B bk bm bu bh he nm W4 ∧ LK B bm bu bh w W4 := by
  have t0 := h.rs
  obtain ⟨w1, e1⟩ : ∃ w1, w1 = wr.setCell ⟨w.heap.size + 1, 0, none⟩ m1 := ⟨_, rfl⟩
  have t1 := setc t0 (i := 0) m1
  have a1 := h.lg.setOther (i := 0) t0 m1
  have b1 := map_set (i := 0) h.m1 t0 m1
  have c1 := map_set (i := 0) h.m2 t0 m1
  have d1 := own_set43 (i := 0) h.r1 t0 (by decide) m1
  have g1 := hK.set_new (b := w.heap.size + 1) (i := 0) (by omega) m1
  rw [← e1] at hW t1 a1 b1 c1 d1 g1
  obtain ⟨w2, e2⟩ : ∃ w2, w2 = w1.setCell ⟨w.heap.size + 1, 1, none⟩ v1 := ⟨_, rfl⟩
  have t2 := setc t1 (i := 1) v1
  have a2 := a1.setOther (i := 1) t1 v1
  have b2 := map_set (i := 1) b1 t1 v1
  have c2 := map_set (i := 1) c1 t1 v1
  have d2 := own_set43 (i := 1) d1 t1 (by decide) v1
  have g2 := g1.set_new (b := w.heap.size + 1) (i := 1) (by omega) v1
  rw [← e2] at hW t2 a2 b2 c2 d2 g2
  obtain ⟨w3, e3⟩ : ∃ w3, w3 = w2.setCell ⟨w.heap.size + 1, 2, none⟩ m2 := ⟨_, rfl⟩
  have t3 := setc t2 (i := 2) m2
  have a3 := a2.setOther (i := 2) t2 m2
  have b3 := map_set (i := 2) b2 t2 m2
  have c3 := map_set (i := 2) c2 t2 m2
  have d3 := own_set43 (i := 2) d2 t2 (by decide) m2
  have g3 := g2.set_new (b := w.heap.size + 1) (i := 2) (by omega) m2
  rw [← e3] at hW t3 a3 b3 c3 d3 g3
  have t4 := setc t3 (i := 3) v2
  have a4 := a3.setOther (i := 3) t3 v2
  have b4 := map_set (i := 3) b3 t3 v2
  have c4 := map_set (i := 3) c3 t3 v2
  have d4 := own_set43 (i := 3) d3 t3 (by decide) v2
  have g4 := g3.set_new (b := w.heap.size + 1) (i := 3) (by omega) v2
  rw [← hW] at t4 a4 b4 c4 d4 g4
  exact ⟨⟨(Array.getElem?_eq_some_iff.1 t4).1, Lib.cell_of_heap t4 0, Lib.cell_of_heap t4 1, Lib.cell_of_heap t4 2, Lib.cell_of_heap t4 3⟩, b4, c4, own_base d4 (by omega), a4, g4⟩
theorem key9 (p : ByteArray) (h : p.size ≤ 2097152) : keyOf Tryz.prog 9 (.string p) = some (.string p.data.toList) := Go.WideMaps.keyOf_string_mk Tryz.underlying9 (by unfold maxLen; omega)
theorem val4 : plainElem (H := Unit) Tryz.prog 4 (.bool true) = some (.lit (.bool true), []) := plainElem_bool Tryz.underlying4 true

set_option maxHeartbeats 4000000 in
set_option maxRecDepth 100000 in
theorem ext_any (F : Interp) (B bk bm bu bh mk : Nat) (mcs : Array Value) (a : Option Addr) (len cap : Nat) (ps : List ByteArray) (w : World) (hF : F.answers w.tape) (hlog : LogAt B bk bm bu bh false 0 w) (hB : B ≤ w.heap.size) (h1 : B ≤ bm) (h2 : B ≤ bu) (h3 : B ≤ bh)
    (hmk : w.heap[mk]? = some (.cells mcs 94 (0, 0))) (hmc : mcs[4]? = some (.int .u8 0)) (hr : InRow w a len cap (ps.map Value.string)) (har : ∀ x, a = some x → ps.map Value.string ≠ [] → x.block < B) (hlen : len ≤ 4096) (hk : ∀ p ∈ ps, p.size ≤ 1048576) :
    Calls Tryz.prog 22 #[logV bk bu bh bm, .iface 92 (.pointer (some ⟨mk, 0, none⟩)), .slice a len cap] w (ExtPost B bk bm bu bh ps w) := by
  unfold logV
  obtain ⟨i0, hi0, hz0, hz1, hz2⟩ := info_parts info43
  have HI := Lib.hid (And.intro hi0 (And.intro hz0 (And.intro hz1 hz2)))
  clear hi0 hz0 hz1 hz2
  have hmk1 := fun W => run_makeMap (P := Tryz.prog) 31 W
  have hbase : w.heap.size = w.heap.size := rfl
  have HA := Lib.hid (And.intro hF (And.intro hlog (And.intro hB (And.intro h1 (And.intro h2 (And.intro h3 (And.intro hmk (And.intro hmc (And.intro hr (And.intro har hk))))))))))
  clear hF hlog hB h1 h2 h3 hmk hmc hr har hk hbase
  go_enter Tryz.func22, Tryz.ntmps22
  go_upto_region 2 with fail
  obtain ⟨W, hW⟩ : ∃ W, W = ((((w.alloc (.cells #[.func (.func 23) #[] #[.pointer (some ⟨bk, 0, none⟩), .pointer (some ⟨bu, 0, none⟩), .pointer (some ⟨bh, 0, none⟩), .pointer (some ⟨bm, 0, none⟩)], .func (.func 26) #[] #[.pointer (some ⟨bu, 0, none⟩), .pointer (some ⟨bh, 0, none⟩)], .func (.func 27) #[] #[.pointer (some ⟨bu, 0, none⟩), .pointer (some ⟨bm, 0, none⟩)], .func (.func 28) #[] #[.pointer (some ⟨bu, 0, none⟩), .pointer (some ⟨bm, 0, none⟩)], .int .i8 3, .map none] 52)).alloc (.cells #[.map none, .slice none 0 0, .map none, .slice none 0 0] 36)).alloc (.map #[] 0)).alloc (.map #[] 0)).alloc (.cells #[.map (some (w.heap.size + 1 + 1)), .slice none 0 0, .map (some (w.heap.size + 1 + 1 + 1)), .slice none 0 0] 36) := ⟨_, rfl⟩
  obtain ⟨hex, hbW, hsW⟩ := ex_start HA.out.2.1 HA.out.2.2.1 hW
  rw [← hW]
  clear hW hmk1
  have HS := Lib.hid (And.intro hex (And.intro hbW hsW))
  clear hex hbW hsW
  go_wp2_with fail
  go_loopw [21] (fun s21 wr => ∃ k : Nat, k ≤ len ∧ s21 = .int .i64 k ∧ ERel B bk bm bu bh w.heap.size ps k w wr) (fun s21 _ => len - (intOf s21).toNat)
  case atStart => exact ⟨0, Nat.zero_le _, rfl, false, 0, 0, 0, _, _, _, 0, _, _, 0, _, HS.out.1, LK.below HS.out.2.1, said_start _, by omega, by omega, by omega, by omega, by omega⟩
  case round =>
    obtain ⟨k, hk, rfl, he, nm, k1, k2, D1, D2, v1, n1, xs1, v2, n2, xs2, hX, hK, hS, hn1, hn2, hn3, hn4, hn5⟩ := hrel
    have hbB := hK.belowB HA.out.2.2.1 HA.out.2.2.2.1 HA.out.2.2.2.2.1 HA.out.2.2.2.2.2.1
    have hrow := HA.out.2.2.2.2.2.2.2.2.1.below hbB HA.out.2.2.2.2.2.2.2.2.2.1
    have hXl := hX.lt
    by_cases hlt : k < len
    · obtain ⟨x, p, rfl, hp, hcell⟩ := hrow.get hlt
      have hps : p.size ≤ 1048576 := HA.out.2.2.2.2.2.2.2.2.2.2 p (List.mem_of_getElem? hp)
      have HR := Lib.hid (And.intro hX (And.intro hK (And.intro hS (And.intro hbB hp))))
      clear hX hK hS hbB hp hrow
      go_upto_region 5 with fail
      clear hcell
      go_wp2_with fail
      refine (Tryz.strings_IndexByte p 42 _).mono ?_
      rintro e w' ⟨rfl, hw'⟩
      subst w'
      rcases ix_cases p with ⟨hi, h0⟩ | ⟨i, hi, hilt, hst, hno, hat⟩
      · rw [show Lib.indexByte p.data.toList (42 : Int).toNat.toUInt8 = -1 from hi]
        have H0 := Lib.hid (And.intro hi h0)
        clear hi h0
        go_upto_region 16 with fail
        obtain ⟨c0, c1, c2, c3, hfz⟩ := HR.out.1.cell
        have hk1 : k1 < maxLen := by unfold maxLen; omega
        have hkey := key9 p (by omega)
        go_upto_region 17 with (at_mapUpdate; refine wpList_mapUpdate_own _ rfl _ _ _ 31 rfl 9 4 law9 Tryz.underlying31 _ (w.heap.size + 2) k1 D1 rfl HR.out.1.m1 hk1 _ _ _ rfl rfl hkey (.lit (.bool true)) [] val4 ?_; intro w1 hm1 hg1)
        have hX1 := HR.out.1.put1 hg1 hm1
        have hXl1 := hX1.lt
        have hS1 := said_none (D2' := D2) (n1' := n1) (xs1' := xs1) HR.out.2.2.1 HR.out.2.2.2.2 H0.out.2 HR.out.1.m1.isMap
        have hK1 := HR.out.2.1.grown hg1 (fun j hj => by cases hj; omega)
        have H1 := Lib.hid (And.intro hX1 (And.intro hS1 hK1))
        clear hX1 hS1 hK1 hg1 hm1 c0 c1 c2 c3 hfz hkey
        go_wp2_with fail
        refine (isPkg_any p _).mono ?_
        rintro e w' ⟨⟨b, rfl⟩, rfl⟩
        cases b
        · go_upto_region 19 with fail
          have q0 := Lib.cell_of_heap H1.out.1.bx 0
          have q1 := Lib.cell_of_heap H1.out.1.bx 1
          have q2 := Lib.cell_of_heap H1.out.1.bx 2
          have q3 := Lib.cell_of_heap H1.out.1.bx 3
          have q4 := Lib.cell_of_heap H1.out.1.bx 4
          have q5 := Lib.cell_of_heap H1.out.1.bx 5
          simp only [List.getElem?_toArray, List.getElem?_cons_zero, List.getElem?_cons_succ] at q0 q1 q2 q3 q4 q5
          have n0 : w.heap.size < w1.heap.size := by omega
          have hmk1 := H1.out.2.2.cells HA.out.2.1 HA.out.2.2.2.2.2.2.1 (by decide) (by decide) (by decide) (by decide)
          have c4 : w1.cell? ⟨mk, 4, none⟩ = some (.int .u8 0) := (Lib.cell_of_heap hmk1 4).trans HA.out.2.2.2.2.2.2.2.1
          clear hmk1
          go_upto_region 20 with (go_at_call 43; refine (vpath_any bk bu bh bm mk p _ _ (by omega) c4).mono ?_; rintro e w2 ⟨⟨ab, rfl, hab⟩, hb2⟩)
          have hX2 := H1.out.1.below hb2
          have hK2 := H1.out.2.2.trans (LK.below hb2)
          have hXl2 := hX2.lt
          have H2 := Lib.hid (And.intro hX2 (And.intro H1.out.2.1 (And.intro hK2 hab)))
          clear hX2 hK2 hab hb2 q0 q1 q2 q3 q4 q5 c4
          cases qe : ab.toList.isEmpty
          · go_upto_region 21 with fail
            obtain ⟨c0, c1, c2, c3, hfz⟩ := H2.out.1.cell
            have hk2 : k2 < maxLen := by unfold maxLen; omega
            have hkey := key9 ab H2.out.2.2.2
            go_upto_region 22 with (at_mapUpdate; refine wpList_mapUpdate_own _ rfl _ _ _ 31 rfl 9 4 law9 Tryz.underlying31 _ (w.heap.size + 3) k2 D2 rfl H2.out.1.m2 hk2 _ _ _ rfl rfl hkey (.lit (.bool true)) [] val4 ?_; intro w3 hm3 hg3)
            have hX3 := H2.out.1.put2 hg3 hm3
            have hS3 := said_none (D2' := D2.put (.string ab.data.toList) (.lit (.bool true))) (n1' := n1) (xs1' := xs1) HR.out.2.2.1 HR.out.2.2.2.2 H0.out.2 HR.out.1.m1.isMap
            have hK3 := H2.out.2.2.1.grown hg3 (fun j hj => by cases hj; omega)
            have H3 := Lib.hid (And.intro hX3 (And.intro hS3 hK3))
            clear hX3 hS3 hK3 hg3 hm3 c0 c1 c2 c3 hfz hkey
            go_wp2_with fail
            go_roundw
            case rel => exact ⟨k + 1, by omega, by go_num, he, nm, k1 + 1, k2 + 1, _, _, v1, n1, xs1, v2, n2, xs2, H3.out.1, H3.out.2.2, H3.out.2.1, by omega, by omega, by omega, by omega, by omega⟩
            case measure => simp [intOf]; omega
          · go_upto_region 22 with fail
            go_wp2_with fail
            go_roundw
            case rel => exact ⟨k + 1, by omega, by go_num, he, nm, k1 + 1, k2, _, _, v1, n1, xs1, v2, n2, xs2, H2.out.1, H2.out.2.2.1, H2.out.2.1, by omega, by omega, by omega, by omega, by omega⟩
            case measure => simp [intOf]; omega
        · go_upto_region 18 with fail
          obtain ⟨c0, c1, c2, c3, hfz⟩ := H1.out.1.cell
          have f1 := hfz 1
          have hcat := fun W => run_string_add_sum (P := Tryz.prog) (w := W) p ⟨#[47]⟩ (by rw [show (⟨#[47]⟩ : ByteArray).size = 1 from rfl]; omega)
          clear hfz
          go_upto_region 22 with (at_builtin; refine wpList_append_lies _ rfl (.tmp 100) (.tmp 104) 32 rfl (w.heap.size + 5) 43 i0 (.agg #[.string ⟨#[]⟩, .string ⟨#[]⟩]) 2 32 Tryz.underlying32 HI.out.1 HI.out.2.1 HI.out.2.2.1 HI.out.2.2.2 rfl (by decide) v1 n1 xs1 (by rfl) (H1.out.1.r1.alloc _) ⟨w1.heap.size, 0, none⟩ 1 1 [.string (p ++ ⟨#[47]⟩), .string ⟨#[]⟩] rfl rfl (two_in (heap_alloc_new w1 _)) (two_one _ _) (by omega) (by unfold maxLen; omega) (by omega) (by simp; omega) (w1.heap.size + 1) (by simp) ?_; intro g cap3 w3 hown3 hg3 hat3 hlt3; obtain ⟨l3, d1, d3, e1, e3⟩ := H1.out.1.held H1.out.1.r1 (grown_ad w1 _ hg3))
          obtain ⟨hX3, hK3⟩ := ex_app1 H1.out.1 H1.out.2.2 (grown_ad w1 _ hg3) hown3 hat3 (by omega)
          have hS3 := said_none (D2' := D2) (n1' := n1 + 1) (xs1' := xs1 ++ [.string (p ++ ⟨#[47]⟩), .string ⟨#[]⟩]) HR.out.2.2.1 HR.out.2.2.2.2 H0.out.2 HR.out.1.m1.isMap
          have H3 := Lib.hid (And.intro hX3 (And.intro hS3 hK3))
          clear hX3 hS3 hK3 hown3 hg3 hat3 l3 d1 d3 e1 e3 c0 c1 c2 c3 f1 hcat
          go_wp2_with fail
          go_roundw
          case rel => exact ⟨k + 1, by omega, by go_num, he, nm, k1 + 1, k2, _, _, _, n1 + 1, _, v2, n2, xs2, H3.out.1, H3.out.2.2, H3.out.2.1, by omega, by omega, by omega, by omega, by omega⟩
          case measure => simp [intOf]; omega
      · rw [show Lib.indexByte p.data.toList (42 : Int).toNat.toUInt8 = (i : Int) from hi]
        have H0 := Lib.hid (And.intro hi (And.intro hst (And.intro hno hat)))
        clear hi hst hno hat
        go_upto_region 7 with fail
        go_wp2_with fail
        refine (contains42 (p.extract (i + 1) p.size) _).mono ?_
        rintro e w1 ⟨b, rfl, hb1, hbi⟩
        have hX1 := HR.out.1.below hb1
        have hXl1 := hX1.lt
        have hK1 := HR.out.2.1.trans (LK.below hb1)
        have hB1 : B ≤ w1.heap.size := by have := HA.out.2.2.1; omega
        have H1 := Lib.hid (And.intro hX1 (And.intro hK1 hbi))
        clear hX1 hK1 hbi hb1
        cases b
        · go_upto_region 9 with fail
          obtain ⟨c0, c1, c2, c3, hfz⟩ := H1.out.1.cell
          have f1 := hfz 1
          have b1 : (0 : Int) ≤ (i : Int) := by omega
          have b2 : (i : Int) ≤ (p.size : Int) := by omega
          have b3 : (0 : Int) ≤ (i : Int) + 1 := by omega
          have b4 : (i : Int) + 1 ≤ (p.size : Int) := by omega
          have b5 : IntKind.i64.wrap ((i : Int) + 1) = (i : Int) + 1 := IntWalk.i64_in _ (by omega)
          clear hfz
          go_region_law ((refine step_append_lies _ (by rfl) (.tmp 43) (.tmp 52) 32 (by rfl) (w.heap.size + 5) 43 i0 (.agg #[.string ⟨#[]⟩, .string ⟨#[]⟩]) 2 32 Tryz.underlying32 HI.out.1 HI.out.2.1 HI.out.2.2.1 HI.out.2.2.2 rfl (by decide) v1 n1 xs1 (by rfl) ((H1.out.1.r1.alloc _).drew) ⟨w1.heap.size, 0, none⟩ 1 1 [.string (p.extract 0 i), .string (p.extract (i + 1) p.size)] (by rfl) (by rfl) (two_in (heap_alloc_new w1 _)) (two_one _ _) (by omega) (by unfold maxLen; omega) (by omega) (by simp; omega) (w1.heap.size + 1) (by simp) ?_; intro g cap3 w3 hown3 hg3 hat3 hlt3; obtain ⟨l3, d1, d3, e1, e3⟩ := H1.out.1.held H1.out.1.r1 (grown_add w1 _ hg3)))
          all_goals
            obtain ⟨hX3, hK3⟩ := ex_app1 H1.out.1 H1.out.2.1 (grown_add w1 _ hg3) hown3 hat3 (by omega)
            have hone : stars p = 1 := by
              rw [H0.out.2.1, List.count_eq_zero.2 (fun hm => by have := H1.out.2.2.2 hm; cases this)]
            have hS3 := said_one HR.out.2.2.1 HR.out.2.2.2.2 hone
            rw [pat_eq H0.out.1] at hS3
            obtain ⟨w4, hw4⟩ : ∃ w4, w4 = w3.setCell ⟨w.heap.size + 1 + 1 + 1 + 1, 1, none⟩ (.slice (some ⟨g, 0, none⟩) (n1 + 1) cap3) := ⟨_, rfl⟩
            rw [← hw4] at hX3 hK3 ⊢
            have hXl4 := hX3.lt
            have H3 := Lib.hid (And.intro hX3 (And.intro hK3 hS3))
            clear hX3 hK3 hS3 hone hw4 hown3 hg3 hat3 l3 d1 d3 e1 e3 c0 c1 c2 c3 f1 b1 b2 b3 b4 b5 hlt3
            go_wp2_with fail
            refine (isPkg_any p _).mono ?_
            rintro e w' ⟨⟨b, rfl⟩, rfl⟩
            cases b
            · go_upto_region 11 with fail
              have q0 := Lib.cell_of_heap H3.out.1.bx 0
              have q1 := Lib.cell_of_heap H3.out.1.bx 1
              have q2 := Lib.cell_of_heap H3.out.1.bx 2
              have q3 := Lib.cell_of_heap H3.out.1.bx 3
              have q4 := Lib.cell_of_heap H3.out.1.bx 4
              have q5 := Lib.cell_of_heap H3.out.1.bx 5
              simp only [List.getElem?_toArray, List.getElem?_cons_zero, List.getElem?_cons_succ] at q0 q1 q2 q3 q4 q5
              have n0 : w.heap.size < w4.heap.size := by omega
              have hmk1 := H3.out.2.1.cells HA.out.2.1 HA.out.2.2.2.2.2.2.1 (by decide) (by decide) (by decide) (by decide)
              have c4 : w4.cell? ⟨mk, 4, none⟩ = some (.int .u8 0) := (Lib.cell_of_heap hmk1 4).trans HA.out.2.2.2.2.2.2.2.1
              clear hmk1
              go_upto_region 12 with (go_at_call 43; refine (vpath_any bk bu bh bm mk p _ _ (by omega) c4).mono ?_; rintro e w5 ⟨⟨ab, rfl, hab⟩, hb5⟩)
              have hX5 := H3.out.1.below hb5
              have hK5 := H3.out.2.1.trans (LK.below hb5)
              have hXl5 := hX5.lt
              have H5 := Lib.hid (And.intro hX5 (And.intro hK5 hab))
              clear hX5 hK5 hab hb5 q0 q1 q2 q3 q4 q5 c4
              cases qe : ab.toList.isEmpty
              · go_upto_region 13 with fail
                go_wp2_with fail
                refine (Tryz.strings_IndexByte ab 42 _).mono ?_
                rintro e w' ⟨rfl, hw'⟩
                subst w'
                rcases ix_cases ab with ⟨hi, h0⟩ | ⟨j, hj, hjlt, z1, z2, z3⟩
                · rw [show Lib.indexByte ab.data.toList (42 : Int).toNat.toUInt8 = -1 from hi]
                  clear hi h0
                  go_upto_region 22 with fail
                  go_wp2_with fail
                  go_roundw
                  case rel => exact ⟨k + 1, by omega, by go_num, he, nm, k1, k2, _, _, _, n1 + 1, _, v2, n2, xs2, H5.out.1, H5.out.2.1, H3.out.2.2, by omega, by omega, by omega, by omega, by omega⟩
                  case measure => simp [intOf]; omega
                · rw [show Lib.indexByte ab.data.toList (42 : Int).toNat.toUInt8 = (j : Int) from hj]
                  clear hj z1 z2 z3
                  have hab := H5.out.2.2
                  go_wp2_with fail
                  refine (contains42 (ab.extract (j + 1) ab.size) _).mono ?_
                  rintro e w6 ⟨b6, rfl, hb6, hq6⟩
                  clear hq6
                  have hX6 := H5.out.1.below hb6
                  have hXl6 := hX6.lt
                  have hK6 := H5.out.2.1.trans (LK.below hb6)
                  have H6 := Lib.hid (And.intro hX6 hK6)
                  clear hX6 hK6 hb6
                  cases b6
                  · go_upto_region 15 with fail
                    obtain ⟨c0, c1, c2, c3, hfz⟩ := H6.out.1.cell
                    have f1 := hfz 3
                    have b1 : (0 : Int) ≤ (j : Int) := by omega
                    have b2 : (j : Int) ≤ (ab.size : Int) := by omega
                    have b3 : (0 : Int) ≤ (j : Int) + 1 := by omega
                    have b4 : (j : Int) + 1 ≤ (ab.size : Int) := by omega
                    have b5 : IntKind.i64.wrap ((j : Int) + 1) = (j : Int) + 1 := IntWalk.i64_in _ (by omega)
                    clear hfz
                    go_region_law ((refine step_append_lies _ (by rfl) (.tmp 79) (.tmp 88) 32 (by rfl) (w.heap.size + 5) 43 i0 (.agg #[.string ⟨#[]⟩, .string ⟨#[]⟩]) 2 32 Tryz.underlying32 HI.out.1 HI.out.2.1 HI.out.2.2.1 HI.out.2.2.2 rfl (by decide) v2 n2 xs2 (by rfl) ((H6.out.1.r2.alloc _).drew) ⟨w6.heap.size, 0, none⟩ 1 1 [.string (ab.extract 0 j), .string (ab.extract (j + 1) ab.size)] (by rfl) (by rfl) (two_in (heap_alloc_new w6 _)) (two_one _ _) (by omega) (by unfold maxLen; omega) (by omega) (by simp; omega) (w6.heap.size + 1) (by simp) ?_; intro g7 cap7 w7 hown7 hg7 hat7 hlt7; obtain ⟨l7, d1, d3, e1, e3⟩ := H6.out.1.held H6.out.1.r2 (grown_add w6 _ hg7)))
                    all_goals
                      obtain ⟨hX7, hK7⟩ := ex_app2 H6.out.1 H6.out.2 (grown_add w6 _ hg7) hown7 hat7 (by omega)
                      obtain ⟨w8, hw8⟩ : ∃ w8, w8 = w7.setCell ⟨w.heap.size + 1 + 1 + 1 + 1, 3, none⟩ (.slice (some ⟨g7, 0, none⟩) (n2 + 1) cap7) := ⟨_, rfl⟩
                      rw [← hw8] at hX7 hK7 ⊢
                      have H7 := Lib.hid (And.intro hX7 hK7)
                      clear hX7 hK7 hw8 hown7 hg7 hat7 l7 d1 d3 e1 e3 c0 c1 c2 c3 f1 b1 b2 b3 b4 b5 hlt7
                      go_wp2_with fail
                      go_roundw
                      case rel => exact ⟨k + 1, by omega, by go_num, he, nm, k1, k2, _, _, _, n1 + 1, _, _, n2 + 1, _, H7.out.1, H7.out.2, H3.out.2.2, by omega, by omega, by omega, by omega, by omega⟩
                      case measure => simp [intOf]; omega
                  · go_upto_region 22 with fail
                    go_wp2_with fail
                    go_roundw
                    case rel => exact ⟨k + 1, by omega, by go_num, he, nm, k1, k2, _, _, _, n1 + 1, _, v2, n2, xs2, H6.out.1, H6.out.2, H3.out.2.2, by omega, by omega, by omega, by omega, by omega⟩
                    case measure => simp [intOf]; omega
              · go_upto_region 22 with fail
                go_wp2_with fail
                go_roundw
                case rel => exact ⟨k + 1, by omega, by go_num, he, nm, k1, k2, _, _, _, n1 + 1, _, v2, n2, xs2, H5.out.1, H5.out.2.1, H3.out.2.2, by omega, by omega, by omega, by omega, by omega⟩
                case measure => simp [intOf]; omega
            · go_upto_region 22 with fail
              go_wp2_with fail
              go_roundw
              case rel => exact ⟨k + 1, by omega, by go_num, he, nm, k1, k2, _, _, _, n1 + 1, _, v2, n2, xs2, H3.out.1, H3.out.2.1, H3.out.2.2, by omega, by omega, by omega, by omega, by omega⟩
              case measure => simp [intOf]; omega
        · go_upto_region 8 with fail
          have hF1 : F.answers w1.tape := by rw [H1.out.2.1.tape]; exact HA.out.1
          have hF' := answers_open hF1
          have j1 := call36
          have j2 := guard
          have j3 := fmtE
          have j4 := fmtEr
          have j5 := op9_113
          have q0 := Lib.cell_of_heap H1.out.1.bx 0
          have q1 := Lib.cell_of_heap H1.out.1.bx 1
          have q2 := Lib.cell_of_heap H1.out.1.bx 2
          have q3 := Lib.cell_of_heap H1.out.1.bx 3
          have q4 := Lib.cell_of_heap H1.out.1.bx 4
          have q5 := Lib.cell_of_heap H1.out.1.bx 5
          simp only [List.getElem?_toArray, List.getElem?_cons_zero, List.getElem?_cons_succ] at q0 q1 q2 q3 q4 q5
          have hnm : nm ≤ 65536 := by omega
          have n0 : w.heap.size < w1.heap.size := by omega
          go_region_with (go_at_call 35; refine (add_error B bk bm bu bh nm he _ _ (by first | exact H1.out.1.lg.kept hB1 ((Below.refl _ _).alloc (Nat.le_refl _) _).drew.drew | exact H1.out.1.lg.kept hB1 ((Below.refl _ _).alloc (Nat.le_refl _) _).drew | exact H1.out.1.lg.kept hB1 ((Below.refl _ _).alloc (Nat.le_refl _) _)) (by simp; omega) hnm).mono ?_; rintro e w3 ⟨rfl, hL3, hfmtE⟩)
          all_goals
            have l3 : LK B bm bu bh w1 w3 := by first | exact (LK.below ((Below.refl _ _).alloc (Nat.le_refl _) _).drew.drew).trans hfmtE | exact (LK.below ((Below.refl _ _).alloc (Nat.le_refl _) _).drew).trans hfmtE | exact (LK.below ((Below.refl _ _).alloc (Nat.le_refl _) _)).trans hfmtE
            have hX3 := H1.out.1.err l3 hL3
            have hK3 := H1.out.2.1.trans l3
            have htwo : 2 ≤ stars p := by
              rw [H0.out.2.1]
              have := (extract_mem p (i + 1)).1 (by simpa using H1.out.2.2)
              omega
            have hS3 := said_many HR.out.2.2.1 HR.out.2.2.2.2 htwo
            have H3 := Lib.hid (And.intro hX3 (And.intro hK3 hS3))
            clear hF' hF1 j1 j2 j3 j4 j5 q0 q1 q2 q3 q4 q5 hfmtE hX3 hK3 hS3 htwo l3 hL3
            go_wp2_with fail
            go_roundw
            case rel => exact ⟨k + 1, by omega, by go_num, true, nm + 1, k1, k2, _, _, _, n1, _, _, n2, _, H3.out.1, H3.out.2.1, H3.out.2.2, by omega, by omega, by omega, by omega, by omega⟩
            case measure => simp [intOf]; omega
    · obtain rfl : k = len := by omega
      obtain ⟨a1, l1, cp1, rfl⟩ := own_slice hX.r1
      obtain ⟨a2, l2, cp2, rfl⟩ := own_slice hX.r2
      have hll := HA.out.2.2.2.2.2.2.2.2.1.len
      rw [List.length_map] at hll
      have r0 := Lib.cell_of_heap hX.rs 0
      have r1 := Lib.cell_of_heap hX.rs 1
      have r2 := Lib.cell_of_heap hX.rs 2
      have r3 := Lib.cell_of_heap hX.rs 3
      have hfr := fun i => Lib.frozen_of_heap hX.rs i
      have g0 := hfr 0
      have g1 := hfr 1
      have g2 := hfr 2
      have g3 := hfr 3
      simp only [List.getElem?_toArray, List.getElem?_cons_zero, List.getElem?_cons_succ] at r0 r1 r2 r3
      obtain ⟨c0, c1, c2, c3, hfz⟩ := hX.cell
      have n1' : w.heap.size + 1 < wr.heap.size := by omega
      have HR := Lib.hid (And.intro hX (And.intro hK (And.intro hS hll)))
      clear hX hK hS hbB hrow hfr hfz hll
      go_wp2_with fail
      obtain ⟨W4, hW4⟩ : ∃ W4, W4 = (((wr.setCell ⟨w.heap.size + 1, 0, none⟩ (.map (some (w.heap.size + 1 + 1)))).setCell ⟨w.heap.size + 1, 1, none⟩ (.slice a1 l1 cp1)).setCell ⟨w.heap.size + 1, 2, none⟩ (.map (some (w.heap.size + 1 + 1 + 1)))).setCell ⟨w.heap.size + 1, 3, none⟩ (.slice a2 l2 cp2) := ⟨_, rfl⟩
      rw [← hW4]
      obtain ⟨⟨z0, z1, z2, z3, z4⟩, z5, z6, z7, z8, z9⟩ := ex_end HR.out.1 HR.out.2.1 hW4
      refine bodyPost_ret (v := .agg #[.map (some (w.heap.size + 1 + 1)), .slice a1 l1 cp1, .map (some (w.heap.size + 1 + 1 + 1)), .slice a2 l2 cp2]) (by simp [results, Tryz.results22, go_sem, z1, z2, z3, z4]) rfl ?_
      exact ⟨_, _, _, _, he, nm, k1, k2, D1, D2, n1, xs1, rfl, z5, z6, z7, by rw [HR.out.2.2.2]; exact HR.out.2.2.1, z8, z9, by have := HR.out.2.2.2; omega, by have := HR.out.2.2.2; omega, by have := HR.out.2.2.2; omega, _, _, _, rfl⟩
end Go.Proofs.YtkdkjcljdagakaaGreatFmt
