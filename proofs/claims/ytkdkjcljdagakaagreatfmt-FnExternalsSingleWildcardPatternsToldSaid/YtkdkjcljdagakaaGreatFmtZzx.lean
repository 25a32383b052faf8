/-
  The contract of the law's way into validateExternals; conditions: those that it names.
-/
import Derived.Test.YtkdkjcljdagakaaGreatFmtVex
import Derived.Test.YtkdkjcljdagakaaGreatFmtZzv
namespace Go.Proofs.YtkdkjcljdagakaaGreatFmt
open Go.RowKit Go.Extern.Stop Go.Stop Go.Extern Go.Maps

theorem hasErr {B bk bm bu bh n : Nat} {he : Bool} {w : World} (h : LogAt B bk bm bu bh he n w) :
    Calls Tryz.prog 26 #[.pointer (some ⟨bu, 0, none⟩), .pointer (some ⟨bh, 0, none⟩)] w fun e w' => e = .returned (.bool he) ∧ LogAt B bk bm bu bh he n w' ∧ LK B bm bu bh w w' :=
  (hasErrors_any B bk bm bu bh n he w h).mono fun _ _ ⟨e, hw⟩ => ⟨e, by rw [hw]; exact h.again, by rw [hw]; exact (lk_set (.inr (.inl rfl)) _).trans (lk_set (.inr (.inl rfl)) _)⟩

/-- A block of settings: its cells. -/
theorem four_at {w : World} {b : Nat} {c0 c1 c2 c3 : Value} (h : w.heap[b]? = some (.cells #[c0, c1, c2, c3] 36 (0, 0))) :
    b < w.heap.size ∧ w.cell? ⟨b, 0, none⟩ = some c0 ∧ w.cell? ⟨b, 1, none⟩ = some c1 ∧ w.cell? ⟨b, 2, none⟩ = some c2 ∧ w.cell? ⟨b, 3, none⟩ = some c3 ∧ w.frozen? ⟨b, 0, none⟩ = false ∧ w.frozen? ⟨b, 1, none⟩ = false ∧ w.frozen? ⟨b, 2, none⟩ = false ∧ w.frozen? ⟨b, 3, none⟩ = false :=
  ⟨(Array.getElem?_eq_some_iff.1 h).1, Lib.cell_of_heap h 0, Lib.cell_of_heap h 1, Lib.cell_of_heap h 2, Lib.cell_of_heap h 3, Lib.frozen_of_heap h 0, Lib.frozen_of_heap h 1, Lib.frozen_of_heap h 2, Lib.frozen_of_heap h 3⟩

/-- A variable of settings is set, cell by cell. -/
theorem four_set {k1 k2 n1 b base : Nat} {D1 D2 : DataW Unit} {m1 m2 : Nat} {v1 : Value} {xs1 : List Value} {wr W4 : World} {c0 c1 c2 c3 u0 u1 u2 u3 : Value}
    (t0 : wr.heap[b]? = some (.cells #[c0, c1, c2, c3] 36 (0, 0))) (b0 : MapB m1 k1 D1 wr) (c0 : MapB m2 k2 D2 wr) (d0 : wr.ownsRow base 43 2 v1 n1 xs1)
    (hW : W4 = (((wr.setCell ⟨b, 0, none⟩ u0).setCell ⟨b, 1, none⟩ u1).setCell ⟨b, 2, none⟩ u2).setCell ⟨b, 3, none⟩ u3) :
    (b < W4.heap.size ∧ W4.cell? ⟨b, 0, none⟩ = some u0 ∧ W4.cell? ⟨b, 1, none⟩ = some u1 ∧ W4.cell? ⟨b, 2, none⟩ = some u2 ∧ W4.cell? ⟨b, 3, none⟩ = some u3) ∧
      MapB m1 k1 D1 W4 ∧ MapB m2 k2 D2 W4 ∧ W4.ownsRow base 43 2 v1 n1 xs1 ∧ ∀ B', B' ≤ b → Below B' wr W4 := by
  obtain ⟨w1, e1⟩ : ∃ w1, w1 = wr.setCell ⟨b, 0, none⟩ u0 := ⟨_, rfl⟩
  have t1 := setc t0 (i := 0) u0
  have b1 := map_set (i := 0) b0 t0 u0
  have c1 := map_set (i := 0) c0 t0 u0
  have d1 := own_set43 (i := 0) d0 t0 (by decide) u0
  have g1 : ∀ B', B' ≤ b → Below B' wr (wr.setCell ⟨b, 0, none⟩ u0) := fun B' h => (Below.refl _ _).setCell h _
  rw [← e1] at hW t1 b1 c1 d1 g1
  obtain ⟨w2, e2⟩ : ∃ w2, w2 = w1.setCell ⟨b, 1, none⟩ u1 := ⟨_, rfl⟩
  have t2 := setc t1 (i := 1) u1
  have b2 := map_set (i := 1) b1 t1 u1
  have c2 := map_set (i := 1) c1 t1 u1
  have d2 := own_set43 (i := 1) d1 t1 (by decide) u1
  have g2 : ∀ B', B' ≤ b → Below B' wr (w1.setCell ⟨b, 1, none⟩ u1) := fun B' h => (g1 B' h).setCell h _
  rw [← e2] at hW t2 b2 c2 d2 g2
  obtain ⟨w3, e3⟩ : ∃ w3, w3 = w2.setCell ⟨b, 2, none⟩ u2 := ⟨_, rfl⟩
  have t3 := setc t2 (i := 2) u2
  have b3 := map_set (i := 2) b2 t2 u2
  have c3 := map_set (i := 2) c2 t2 u2
  have d3 := own_set43 (i := 2) d2 t2 (by decide) u2
  have g3 : ∀ B', B' ≤ b → Below B' wr (w2.setCell ⟨b, 2, none⟩ u2) := fun B' h => (g2 B' h).setCell h _
  rw [← e3] at hW t3 b3 c3 d3 g3
  have t4 := setc t3 (i := 3) u3
  have b4 := map_set (i := 3) b3 t3 u3
  have c4 := map_set (i := 3) c3 t3 u3
  have d4 := own_set43 (i := 3) d3 t3 (by decide) u3
  have g4 : ∀ B', B' ≤ b → Below B' wr (w3.setCell ⟨b, 3, none⟩ u3) := fun B' h => (g3 B' h).setCell h _
  rw [← hW] at t4 b4 c4 d4 g4
  obtain ⟨z0, z1, z2, z3, z4, _⟩ := four_at t4
  exact ⟨⟨z0, z1, z2, z3, z4⟩, b4, c4, d4, g4⟩

def ZxPost (ps : List ByteArray) (w : World) (e : Ending) (w' : World) : Prop :=
  ∃ m1 m2 v1 v2 he k1 k2 D1 D2 n1 xs1, e = .returned (.tuple #[.agg #[.map (some m1), v1, .map (some m2), v2], .bool he]) ∧ MapB m1 k1 D1 w' ∧ MapB m2 k2 D2 w' ∧ w'.ownsRow 0 43 2 v1 n1 xs1 ∧ (∃ a l c, v2 = .slice a l c) ∧ Said ps ps.length he D1 D2 n1 xs1 ∧ Below w.heap.size w w' ∧ k1 ≤ ps.length ∧ k2 ≤ ps.length ∧ n1 ≤ ps.length

set_option maxHeartbeats 4000000 in
set_option maxRecDepth 100000 in
theorem zzx_any (F : Interp) (a : Option Addr) (len cap : Nat) (ps : List ByteArray) (w : World) (hF : F.answers w.tape) (hr : InRow w a len cap (ps.map Value.string)) (har : ∀ x, a = some x → ps.map Value.string ≠ [] → x.block < w.heap.size) (hlen : len ≤ 4096) (hk : ∀ p ∈ ps, p.size ≤ 1048576) :
    Calls Tryz.prog 12 #[.slice a len cap] w (ZxPost ps w) := by
  have H := Lib.hid (And.intro hF (And.intro hr (And.intro har hk)))
  clear hF hr har hk
  go_enter Tryz.func12, Tryz.ntmps12
  go_upto_region 1 with fail
  obtain ⟨w0, hw0⟩ : ∃ w0, w0 = w.alloc (.cells #[.map none, .slice none 0 0, .map none, .slice none 0 0] 36) := ⟨_, rfl⟩
  have hb0 : Below w.heap.size w w0 := by rw [hw0]; exact (Below.refl _ _).alloc (Nat.le_refl _) _
  have hs0 : w0.heap.size = w.heap.size + 1 := by rw [hw0]; simp
  have hr0 : w0.heap[w.heap.size]? = some (.cells #[.map none, .slice none 0 0, .map none, .slice none 0 0] 36 (0, 0)) := by rw [hw0]; exact heap_alloc_new w _
  rw [← hw0]
  have H0 := Lib.hid (And.intro hb0 (And.intro hs0 hr0))
  clear hw0 hb0 hs0 hr0
  go_wp2_with fail
  refine (new_log _).mono ?_
  rintro e w1 ⟨bk, bu, bh, bm, rfl, hl, g1, g2, g3, hb1⟩
  have hz1 := hb1.size
  have HL := Lib.hid (And.intro hl hb1)
  clear hl hb1
  unfold logV
  go_upto_region 2 with fail
  obtain ⟨W2, hW2⟩ : ∃ W2, W2 = w1.alloc (.cells #[.func (.func 23) #[] #[.pointer (some ⟨bk, 0, none⟩), .pointer (some ⟨bu, 0, none⟩), .pointer (some ⟨bh, 0, none⟩), .pointer (some ⟨bm, 0, none⟩)], .func (.func 26) #[] #[.pointer (some ⟨bu, 0, none⟩), .pointer (some ⟨bh, 0, none⟩)], .func (.func 27) #[] #[.pointer (some ⟨bu, 0, none⟩), .pointer (some ⟨bm, 0, none⟩)], .func (.func 28) #[] #[.pointer (some ⟨bu, 0, none⟩), .pointer (some ⟨bm, 0, none⟩)], .int .i8 3, .map none] 52) := ⟨_, rfl⟩
  have hbx : BoxAt bk bu bh bm w1.heap.size W2 := by rw [hW2]; exact heap_alloc_new w1 _
  have hb2 : Below w1.heap.size w1 W2 := by rw [hW2]; exact (Below.refl _ _).alloc (Nat.le_refl _) _
  have hs2 : W2.heap.size = w1.heap.size + 1 := by rw [hW2]; simp
  rw [← hW2]
  clear hW2
  have H2 := Lib.hid (And.intro hbx (And.intro hb2 (And.intro hs2 hz1)))
  clear hbx hb2 hs2
  go_wp2_with fail
  refine (mock_any ⟨#[47]⟩ _).mono ?_
  rintro e w3 ⟨⟨mk, mcs, rfl, hmk, hmc, hm4⟩, hb3⟩
  have hz2 : w1.heap.size < W2.heap.size := by have := H2.out.2.2.1; omega
  have hb13 := H2.out.2.1.trans (hb3.mono (by omega))
  have hl3 := HL.out.1.kept hz1 hb13
  have hbx3 := (hb3.block w1.heap.size hz2).trans H2.out.1
  have hb03 := HL.out.2.trans (hb13.mono hz1)
  have hbw3 := H0.out.1.trans (hb03.mono (by have := H0.out.2.1; omega))
  have hF3 : F.answers w3.tape := by rw [hbw3.tape]; exact H.out.1
  have hrow3 := H.out.2.1.below hbw3 H.out.2.2.1
  have hz3 := hb13.size
  have q0 := Lib.cell_of_heap hbx3 0
  have q1 := Lib.cell_of_heap hbx3 1
  have q2 := Lib.cell_of_heap hbx3 2
  have q3 := Lib.cell_of_heap hbx3 3
  have q4 := Lib.cell_of_heap hbx3 4
  have q5 := Lib.cell_of_heap hbx3 5
  simp only [List.getElem?_toArray, List.getElem?_cons_zero, List.getElem?_cons_succ] at q0 q1 q2 q3 q4 q5
  have H3 := Lib.hid (And.intro hl3 (And.intro hrow3 (And.intro hF3 (And.intro hmc (And.intro hm4 (And.intro hb03 (And.intro hbw3 hbx3)))))))
  clear hb13 hl3 hbx3 hb03 hF3 hmc hm4 hb3 hrow3 hbw3
  go_upto_region 4 with (go_at_call 22; refine (ext_any F w0.heap.size bk bm bu bh mk mcs a len cap ps w3 H3.out.2.2.1 H3.out.1 (by omega) g1 g2 g3 H3.out.2.2.2.1 H3.out.2.2.2.2.1 H3.out.2.1 (fun x hx hn => by have := H.out.2.2.1 x hx hn; have := H0.out.2.1; omega) hlen H.out.2.2.2).mono ?_; rintro e w4 ⟨m1, m2, v1, v2, he, nm, k1, k2, D1, D2, n1, xs1, rfl, hm1, hm2, hr1, hS, hl4, hk4, hn1, hn2, hn3, a2, l2, cp2, rfl⟩; obtain ⟨a1, l1, cp1, rfl⟩ := own_slice hr1)
  obtain ⟨w5, hw5⟩ : ∃ w5, w5 = w4.alloc (.cells #[.map (some m1), .slice a1 l1 cp1, .map (some m2), .slice a2 l2 cp2] 36) := ⟨_, rfl⟩
  have hb5 : Below w4.heap.size w4 w5 := by rw [hw5]; exact (Below.refl _ _).alloc (Nat.le_refl _) _
  have hs5 : w5.heap[w4.heap.size]? = some (.cells #[.map (some m1), .slice a1 l1 cp1, .map (some m2), .slice a2 l2 cp2] 36 (0, 0)) := by rw [hw5]; exact heap_alloc_new w4 _
  have g5 := grown_of_below hb5
  have hz5 := hb5.size
  have hB4 : w0.heap.size ≤ w4.heap.size := by have := hk4.size; omega
  have hl5 := hl4.kept hB4 hb5
  have hk5 := hk4.trans (LK.below hb5)
  have hm15 := hm1.kept g5 (by simp)
  have hm25 := hm2.kept g5 (by simp)
  have hr15 := hr1.kept g5 (Classical.em _)
  have hbx5 := hk5.cells H3.out.1 H3.out.2.2.2.2.2.2.2 (by decide) (by decide) (by decide) (by decide)
  have hR3 := (H3.out.2.2.2.2.2.1.block w.heap.size (by have := H0.out.2.1; omega)).trans H0.out.2.2
  have hR5 := hk5.cells H3.out.1 hR3 (by decide) (by decide) (by decide) (by decide)
  rw [← hw5]
  have H5 := Lib.hid (And.intro hl5 (And.intro hk5 (And.intro hm15 (And.intro hm25 (And.intro hr15 (And.intro hS (And.intro hs5 hR5)))))))
  have n5 : w4.heap.size < w5.heap.size := (Array.getElem?_eq_some_iff.1 hs5).1
  have n0 : w.heap.size < w5.heap.size := (Array.getElem?_eq_some_iff.1 hR5).1
  clear hw5 hb5 hs5 g5 hl4 hk4 hm1 hm2 hr1 hl5 hk5 hm15 hm25 hr15 hR3 q0 q1 q2 q3 q4 q5 hS hR5
  have p1 := Lib.cell_of_heap hbx5 1
  obtain ⟨_, s0, s1, s2, s3, _, _, _, _⟩ := four_at H5.out.2.2.2.2.2.2.1
  obtain ⟨_, r0, r1, r2, r3, f0, f1, f2, f3⟩ := four_at H5.out.2.2.2.2.2.2.2
  simp only [List.getElem?_toArray, List.getElem?_cons_zero, List.getElem?_cons_succ] at p1
  clear hbx5
  go_region_with (go_at_call 26; refine (hasErr (B := w0.heap.size) (bk := bk) (bm := bm) (bu := bu) (bh := bh) (n := nm) (he := he) (by first | exact H5.out.1 | exact H5.out.1.drewn)).mono ?_; rintro e w6 ⟨rfl, hl6, hk6⟩; have hk56 : LK w0.heap.size bm bu bh w5 w6 := (by first | exact hk6 | exact (LK.drewn _ _ _ _ w5).trans hk6); obtain ⟨_, s0', s1', s2', s3', _, _, _, _⟩ := four_at (hk56.cells H5.out.1 H5.out.2.2.2.2.2.2.1 (by decide) (by decide) (by decide) (by decide)); obtain ⟨n0', r0', r1', r2', r3', f0', f1', f2', f3'⟩ := four_at (hk56.cells H5.out.1 H5.out.2.2.2.2.2.2.2 (by decide) (by decide) (by decide) (by decide)))
  all_goals
    obtain ⟨W, hW⟩ : ∃ W, W = (((w6.setCell ⟨w.heap.size, 0, none⟩ (.map (some m1))).setCell ⟨w.heap.size, 1, none⟩ (.slice a1 l1 cp1)).setCell ⟨w.heap.size, 2, none⟩ (.map (some m2))).setCell ⟨w.heap.size, 3, none⟩ (.slice a2 l2 cp2) := ⟨_, rfl⟩
    have k36 := H5.out.2.1.trans hk56
    obtain ⟨⟨z0, z1, z2, z3, z4⟩, z5, z6, z7, z8⟩ := four_set (base := w3.heap.size) (hk56.cells H5.out.1 H5.out.2.2.2.2.2.2.2 (by decide) (by decide) (by decide) (by decide)) (hk56.map H5.out.1 H5.out.2.2.1) (hk56.map H5.out.1 H5.out.2.2.2.1) (row_lk H5.out.1 hk56 H5.out.2.2.2.2.1) hW
    have hB3 : w0.heap.size ≤ w3.heap.size := by omega
    have hbel := H3.out.2.2.2.2.2.2.1.trans (((k36.belowB hB3 g1 g2 g3).mono (show w.heap.size ≤ w0.heap.size by have := H0.out.2.1; omega)).trans (z8 w.heap.size (Nat.le_refl _)))
    rw [← hW]
    clear hW hk6 hk56 s0 s1 s2 s3 r0 r1 r2 r3 f0 f1 f2 f3 s0' s1' s2' s3' r0' r1' r2' r3' f0' f1' f2' f3' z8 k36
    go_wp2_with fail
    refine bodyPost_ret (v := .tuple #[.agg #[.map (some m1), .slice a1 l1 cp1, .map (some m2), .slice a2 l2 cp2], .bool he]) (by simp [results, Tryz.results12, go_sem, z1, z2, z3, z4]) rfl ?_
    exact ⟨m1, m2, _, _, he, k1, k2, D1, D2, n1, xs1, rfl, z5, z6, own_base z7 (Nat.zero_le _), ⟨_, _, _, rfl⟩, H5.out.2.2.2.2.2.1, hbel, hn1, hn2, hn3⟩
end Go.Proofs.YtkdkjcljdagakaaGreatFmt
