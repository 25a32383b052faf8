/-
  sort.order2, sort.median, sort.medianAdjacent over the elements: the answer is one of the places given; conditions: those that each lemma names.
-/
import Derived.Test.YtmnoffiblcnjpaaPin
namespace Go.Proofs.Ytmnoffiblcnjpaa
open Go.RowKit Go.Sort

/-- The counter of swaps: block q, that came after w0, holds a number of at most K. -/
structure Sw (w0 : World) (q K : Nat) (w : World) : Prop where
  lo : w0.heap.size ≤ q
  row : ∃ k : Nat, k ≤ K ∧ Row w q 3 1 (fun _ => .int .i64 k)
def Upx (w0 : World) (q : Nat) (w w' : World) : Prop := w.heap.size ≤ w'.heap.size ∧ ∀ k, w0.heap.size ≤ k → k < w.heap.size → k ≠ q → w'.heap[k]? = w.heap[k]?
theorem Upx.refl (w0 : World) (q : Nat) (w : World) : Upx w0 q w w := ⟨Nat.le_refl _, fun _ _ _ _ => rfl⟩
theorem Upx.trans {w0 a b c : World} {q : Nat} (h : Upx w0 q a b) (k : Upx w0 q b c) : Upx w0 q a c := ⟨Nat.le_trans h.1 k.1, fun i h1 h2 h3 => by rw [k.2 i h1 (Nat.lt_of_lt_of_le h2 h.1) h3, h.2 i h1 h2 h3]⟩
theorem Up.upx {w0 w w' : World} (h : Up w0 w w') (q : Nat) : Upx w0 q w w' := ⟨h.1, fun k h1 h2 _ => h.2 k h1 h2⟩
theorem Sw.up {w0 w w' : World} {q K : Nat} (h : Sw w0 q K w) (k : Up w0 w w') : Sw w0 q K w' := by
  obtain ⟨v, hv, hr⟩ := h.row
  refine ⟨h.lo, v, hv, ?_⟩
  have hl := hr.lt
  obtain ⟨cs, h1, h2, h3⟩ := hr
  exact ⟨cs, (k.2 q h.lo hl).trans h1, h2, h3⟩
theorem Sw.mono {w0 w : World} {q K K' : Nat} (h : Sw w0 q K w) (hk : K ≤ K') : Sw w0 q K' w := by
  obtain ⟨v, hv, hr⟩ := h.row
  exact ⟨h.lo, v, by omega, hr⟩
/-- What holds at a state of the search for a pivot. -/
structure Ms (w0 : World) (g N : Nat) (d : Array El) (q K : Nat) (w : World) : Prop where
  r : R w0 g N d w
  s : Sw w0 q K w
def OrdPost (w0 : World) (g N : Nat) (d : Array El) (q K x y : Nat) (w : World) (e : Ending) (w' : World) : Prop :=
  ∃ x' y' : Nat, e = .returned (.tuple #[.int .i64 x', .int .i64 y']) ∧ ((x' = x ∧ y' = y) ∨ (x' = y ∧ y' = x)) ∧ Ms w0 g N d q (K + 1) w' ∧ Upx w0 q w w'
theorem ms_set {w0 w : World} {g N q K k : Nat} {d : Array El} (h : Ms w0 g N d q K w) (hk : k ≤ K) (hr : Row w q 3 1 (fun _ => .int .i64 k)) {v : Int} (hv : v = ((k + 1 : Nat) : Int)) :
    Ms w0 g N d q (K + 1) (w.setCell ⟨q, 0, none⟩ (.int .i64 v)) ∧ Upx w0 q w (w.setCell ⟨q, 0, none⟩ (.int .i64 v)) := by
  subst hv
  have hgs : Gs q w (w.setCell ⟨q, 0, none⟩ (.int .i64 ((k + 1 : Nat) : Int))) := (Gs.refl q w).set _ _
  refine ⟨⟨h.r.keep ⟨hgs.os, hgs.tape, hgs.output, by rw [hgs.size]; exact Nat.le_refl _, fun i hi => hgs.block i (by have := h.s.lo; omega)⟩, h.s.lo, k + 1, by omega, (hr.set 0 _).congr fun i hi => by rw [if_pos (by omega)]⟩, by rw [hgs.size]; exact Nat.le_refl _, fun i _ _ hn => hgs.block i hn⟩

set_option maxHeartbeats 4000000 in
set_option maxRecDepth 100000 in
theorem order_any {w0 w : World} {g N q K : Nat} {d : Array El} (h : Ms w0 g N d q K w) (hK : K ≤ 1000) (x y : Nat) (hx : x < N) (hy : y < N) :
    Calls Try.prog 39 #[dv g N, .int .i64 x, .int .i64 y, .pointer (some ⟨q, 0, none⟩)] w (OrdPost w0 g N d q K x y w) := by
  have H := Lib.hid h
  have mL := meth_less g N
  clear h
  cases hlv : ltE d[y]! d[x]! with
  | true =>
    have HE := Lib.hid hlv
    clear hlv
    go_enter Try.func39, Try.ntmps39
    go_wp2_with fail
    refine (less_at H.out.r y x HE.out (by omega) (by omega) rfl rfl).mono ?_
    rintro e w1 ⟨rfl, hR1, hU1⟩
    obtain ⟨k, hk, hr⟩ := (H.out.s.up hU1).row
    have hc := hr.cell (i := 0) (by omega)
    have hf := hr.frozen 0
    have HM := Lib.hid (And.intro (Ms.mk hR1 (H.out.s.up hU1)) (And.intro hU1 (And.intro hk hr)))
    clear hR1 hU1 hr
    go_wp2_with fail
    go_ret2
    have hs := ms_set (v := (k : Int) + 1) HM.out.1 HM.out.2.2.1 HM.out.2.2.2 (by omega)
    exact ⟨y, x, rfl, Or.inr ⟨rfl, rfl⟩, hs.1, (HM.out.2.1.upx q).trans hs.2⟩
  | false =>
    have HE := Lib.hid hlv
    clear hlv
    go_enter Try.func39, Try.ntmps39
    go_wp2_with fail
    refine (less_at H.out.r y x HE.out (by omega) (by omega) rfl rfl).mono ?_
    rintro e w1 ⟨rfl, hR1, hU1⟩
    go_wp2_with fail
    go_ret2
    exact ⟨x, y, rfl, Or.inl ⟨rfl, rfl⟩, ⟨hR1, (H.out.s.up hU1).mono (by omega)⟩, hU1.upx q⟩
def MedPost (w0 : World) (g N : Nat) (d : Array El) (q K x y z : Nat) (w : World) (e : Ending) (w' : World) : Prop :=
  ∃ m : Nat, e = .returned (.int .i64 m) ∧ (m = x ∨ m = y ∨ m = z) ∧ Ms w0 g N d q (K + 3) w' ∧ Upx w0 q w w'
set_option maxHeartbeats 4000000 in
set_option maxRecDepth 100000 in
theorem median_any {w0 w : World} {g N q K : Nat} {d : Array El} (h : Ms w0 g N d q K w) (hK : K ≤ 900) (x y z : Nat) (hx : x < N) (hy : y < N) (hz : z < N) :
    Calls Try.prog 38 #[dv g N, .int .i64 x, .int .i64 y, .int .i64 z, .pointer (some ⟨q, 0, none⟩)] w (MedPost w0 g N d q K x y z w) := by
  have H := Lib.hid h
  clear h
  go_enter Try.func38, Try.ntmps38
  go_wp2_with fail
  refine (order_any H.out (by omega) x y hx hy).mono ?_
  rintro e w1 ⟨x1, y1, rfl, hor1, hM1, hU1⟩
  have H1 := Lib.hid (And.intro hM1 hU1)
  clear hM1 hU1
  go_wp2_with fail
  refine (order_any H1.out.1 (by omega) y1 z (by omega) hz).mono ?_
  rintro e w2 ⟨y2, z2, rfl, hor2, hM2, hU2⟩
  have H2 := Lib.hid (And.intro hM2 hU2)
  clear hM2 hU2
  go_wp2_with fail
  refine (order_any H2.out.1 (by omega) x1 y2 (by omega) (by omega)).mono ?_
  rintro e w3 ⟨x3, y3, rfl, hor3, hM3, hU3⟩
  have H3 := Lib.hid (And.intro hM3 hU3)
  clear hM3 hU3
  go_wp2_with fail
  go_ret
  exact ⟨y3, rfl, by omega, H3.out.1, (H1.out.2.trans H2.out.2).trans H3.out.2⟩
theorem median_at {w0 w : World} {g N q K : Nat} {d : Array El} (h : Ms w0 g N d q K w) (hK : K ≤ 900) {a b c : Int} (x y z : Nat) (hx : x < N) (hy : y < N) (hz : z < N) (ha : a = x) (hb : b = y) (hc : c = z) :
    Calls Try.prog 38 #[dv g N, .int .i64 a, .int .i64 b, .int .i64 c, .pointer (some ⟨q, 0, none⟩)] w (MedPost w0 g N d q K x y z w) := by
  subst ha hb hc
  exact median_any h hK x y z hx hy hz
set_option maxHeartbeats 4000000 in
set_option maxRecDepth 100000 in
theorem adj_any {w0 w : World} {g N q K : Nat} {d : Array El} (h : Ms w0 g N d q K w) (hK : K ≤ 900) (hN : N ≤ 65536) (x : Nat) (hx : x + 1 < N) (h0 : 0 < x) :
    Calls Try.prog 37 #[dv g N, .int .i64 x, .pointer (some ⟨q, 0, none⟩)] w (MedPost w0 g N d q K (x - 1) x (x + 1) w) := by
  have H := Lib.hid h
  clear h
  go_enter Try.func37, Try.ntmps37
  go_wp2_with fail
  refine (median_at H.out hK (x - 1) x (x + 1) (by omega) (by omega) (by omega) (by omega) rfl (by omega)).mono ?_
  rintro e w1 ⟨m, rfl, hm, hM, hU⟩
  go_wp2_with fail
  go_ret
  exact ⟨m, rfl, hm, hM, hU⟩
end Go.Proofs.Ytmnoffiblcnjpaa
