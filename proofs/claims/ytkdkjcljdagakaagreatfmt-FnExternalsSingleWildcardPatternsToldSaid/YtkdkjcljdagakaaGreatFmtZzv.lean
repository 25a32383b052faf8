/-
  The contract of the law's way into validateAlias; conditions: those that it names.
-/
import Derived.Test.YtkdkjcljdagakaaGreatFmtVal
namespace Go.Proofs.YtkdkjcljdagakaaGreatFmt
open Go.RowKit Go.Extern.Stop Go.Stop Go.Extern Go.Maps

/-- The log's variables are new: nothing that was there has changed. -/
theorem LK.all {n bm bu bh : Nat} {a b c : World} (h : Below n a b) (k : LK n bm bu bh b c) (h1 : n ≤ bm) (h2 : n ≤ bu) (h3 : n ≤ bh) (hn : n ≤ a.heap.size) : Below n a c :=
  ⟨k.os.trans h.os, k.tape.trans h.tape, k.output.trans h.output, Nat.le_trans h.size k.size, fun i hi => by
    have e := h.block i hi
    have hlt : i < b.heap.size := by have := h.size; omega
    have hb : b.heap[i]? = some b.heap[i] := Array.getElem?_eq_getElem hlt
    rw [k.block i _ hb (by omega) (by omega) (by omega) (fun hx => by omega), ← hb, e]⟩

def ZzPost (D0 : DataW Unit) (w : World) (e : Ending) (w' : World) : Prop :=
  ∃ r Dout he, e = .returned (.tuple #[.map (some r), .bool he]) ∧ w.heap.size ≤ r ∧ MapS r (Maps.size D0) Dout w' ∧ Kept Dout D0 ∧ (he = false ↔ ∀ k, has D0 k = true → good k (D0.atKey k .nil) = true) ∧ Below w.heap.size w w'

set_option maxHeartbeats 4000000 in
set_option maxRecDepth 100000 in
theorem zzv_any (F : Interp) (b N : Nat) (D0 : DataW Unit) (w : World) (hF : F.answers w.tape) (hm : MapS b N D0 w) (hN : Maps.size D0 ≤ 4096) (hk : ∀ k : ByteArray, has D0 (.string k.data.toList) = true → k.size ≤ 1048576) :
    Calls Tryz.prog 10 #[.map (some b)] w (ZzPost D0 w) := by
  have H := Lib.hid (And.intro hF (And.intro hm (And.intro hN hk)))
  clear hF hm hN hk
  go_enter Tryz.func10, Tryz.ntmps10
  go_wp2_with fail
  refine (new_log _).mono ?_
  rintro e w1 ⟨bk, bu, bh, bm, rfl, hl, g1, g2, g3, hb1⟩
  have hz1 := hb1.size
  have HL := Lib.hid (And.intro hl hb1)
  clear hl hb1
  unfold logV
  go_upto_region 2 with fail
  obtain ⟨W2, hW2⟩ : ∃ W2, W2 = w1.alloc (.cells #[.func (.func 23) #[] #[.pointer (some ⟨bk, 0, none⟩), .pointer (some ⟨bu, 0, none⟩), .pointer (some ⟨bh, 0, none⟩), .pointer (some ⟨bm, 0, none⟩)], .func (.func 26) #[] #[.pointer (some ⟨bu, 0, none⟩), .pointer (some ⟨bh, 0, none⟩)], .func (.func 27) #[] #[.pointer (some ⟨bu, 0, none⟩), .pointer (some ⟨bm, 0, none⟩)], .func (.func 28) #[] #[.pointer (some ⟨bu, 0, none⟩), .pointer (some ⟨bm, 0, none⟩)], .int .i8 3, .map none] 52) := ⟨_, rfl⟩
  have hbx : BoxAt bk bu bh bm w1.heap.size W2 := by rw [hW2]; exact heap_alloc_new w1 _
  have hb2 : Below w1.heap.size w1 W2 := by rw [hW2]; exact (Below.refl _ _).alloc (Nat.le_refl _) _
  have hs2 : W2.heap.size = w1.heap.size + 1 := by rw [hW2]; simp
  rw [← hW2]
  clear hW2
  have H2 := Lib.hid (And.intro hbx (And.intro hb2 (And.intro hs2 hz1)))
  clear hbx hb2 hs2
  go_wp2_with fail
  refine (mock_any ⟨#[47]⟩ _).mono ?_
  rintro e w3 ⟨⟨mk, mcs, rfl, hmk, hmc, hm4⟩, hb3⟩
  have hz2 : w1.heap.size < W2.heap.size := by have := H2.out.2.2.1; omega
  have hb13 := H2.out.2.1.trans (hb3.mono (by omega))
  have hl3 := HL.out.1.kept hz1 hb13
  have hbx3 := (hb3.block w1.heap.size hz2).trans H2.out.1
  have hb03 := HL.out.2.trans (hb13.mono hz1)
  have hm3 := H.out.2.1.kept (row := none) (w' := w3) ⟨hb03.os, hb03.tape, hb03.output, hb03.size, fun k hk _ => hb03.block k hk⟩ (by simp)
  have hF3 : F.answers w3.tape := by rw [hb03.tape]; exact H.out.1
  have hz3 := hb13.size
  have q0 := Lib.cell_of_heap hbx3 0
  have q1 := Lib.cell_of_heap hbx3 1
  have q2 := Lib.cell_of_heap hbx3 2
  have q3 := Lib.cell_of_heap hbx3 3
  have q4 := Lib.cell_of_heap hbx3 4
  have q5 := Lib.cell_of_heap hbx3 5
  simp only [List.getElem?_toArray, List.getElem?_cons_zero, List.getElem?_cons_succ] at q0 q1 q2 q3 q4 q5
  have H3 := Lib.hid (And.intro hl3 (And.intro hm3 (And.intro hF3 (And.intro hmc (And.intro hm4 (And.intro hb03 hbx3))))))
  clear hb13 hl3 hbx3 hb03 hm3 hF3 hmc hm4 hb3
  go_wp2_with fail
  refine (alias_any F w.heap.size bk bm bu bh b N mk mcs D0 w3 H3.out.2.2.1 H3.out.1 (by omega) H3.out.2.1 H.out.2.2.1 H3.out.2.2.2.1 H3.out.2.2.2.2.1 H.out.2.2.2).mono ?_
  rintro e w4 ⟨r, Dout, n', he, rfl, hr, hmr, hkp, hhe, hl4, hn4, hk4⟩
  have hbx4 := hk4.cells H3.out.1 H3.out.2.2.2.2.2.2 (by decide) (by decide) (by decide) (by decide)
  have p1 := Lib.cell_of_heap hbx4 1
  simp only [List.getElem?_toArray, List.getElem?_cons_zero, List.getElem?_cons_succ] at p1
  have H4 := Lib.hid (And.intro hmr (And.intro hkp (And.intro hhe (And.intro hl4 hk4))))
  clear hmr hkp hhe hl4 hk4 hbx4 q0 q1 q2 q3 q4 q5 hn4
  go_wp2_with (go_at_call 26; refine (hasErrors_any w.heap.size bk bm bu bh n' he _ H4.out.2.2.2.1).mono ?_; rintro e w5 ⟨rfl, rfl⟩)
  go_ret2
  have k5 : LK w.heap.size bm bu bh w4 ((w4.setCell ⟨bu, 0, none⟩ (.int .i32 1)).setCell ⟨bu, 0, none⟩ (.int .i32 0)) := (lk_set (.inr (.inl rfl)) _).trans (lk_set (.inr (.inl rfl)) _)
  exact ⟨r, Dout, he, rfl, by omega, k5.map H4.out.2.2.2.1 H4.out.1, H4.out.2.1, H4.out.2.2.1, LK.all H3.out.2.2.2.2.2.1 (H4.out.2.2.2.2.trans k5) g1 g2 g3 (Nat.le_refl _)⟩
end Go.Proofs.YtkdkjcljdagakaaGreatFmt
