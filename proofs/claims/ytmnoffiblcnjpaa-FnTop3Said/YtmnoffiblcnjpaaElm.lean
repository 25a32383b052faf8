/-
  The elements that are sorted (three cells each), and what their methods Len, Less, Swap do; conditions: those that each lemma names.
-/
import Derived.Test.YtmnoffiblcnjpaaRows
import Derived.Test.YtmnoffiblcnjpaaStr
import Derived.Test.YtmnoffiblcnjpaaRow
import Derived.WalkKit
import Derived.WalkSpells
import Derived.WalkLawsBesides
import Derived.Lib.Hide
import Derived.OwnWalk
import Derived.Laws.AppendOwn
import Derived.RegionTactic
import Derived.BigRegion
import Derived.Sort.AssemblyPlain
namespace Go.Proofs.Ytmnoffiblcnjpaa
open Go.RowKit Go.Sort

structure El where
  ch : ByteArray
  ct : Int
  ix : Nat
instance : Inhabited El := ⟨⟨⟨#[]⟩, 0, 0⟩⟩
def fE (d : Array El) (j : Nat) : Value := match j % 3 with | 0 => .string d[j / 3]!.ch | 1 => .int .i32 d[j / 3]!.ct | _ => .int .u8 d[j / 3]!.ix
def ltE (x y : El) : Bool := decide (y.ct < x.ct) || (decide (x.ct = y.ct) && decide (x.ix < y.ix))
/-- The row g of N elements holds d; beside it nothing that lay in w0 has changed. -/
structure R (w0 : World) (g N : Nat) (d : Array El) (w : World) : Prop where
  size : d.size = N
  row : Row w g 38 (N * 3) (fE d)
  grown : w0.grownBy w (some g)
  lt : g < w0.heap.size
/-- What lies from w0's end on is kept. -/
def Up (w0 w w' : World) : Prop := w.heap.size ≤ w'.heap.size ∧ ∀ k, w0.heap.size ≤ k → k < w.heap.size → w'.heap[k]? = w.heap[k]?
theorem Up.refl (w0 w : World) : Up w0 w w := ⟨Nat.le_refl _, fun _ _ _ => rfl⟩
theorem Up.trans {w0 a b c : World} (h : Up w0 a b) (k : Up w0 b c) : Up w0 a c := ⟨Nat.le_trans h.1 k.1, fun i h1 h2 => by rw [k.2 i h1 (Nat.lt_of_lt_of_le h2 h.1), h.2 i h1 h2]⟩
theorem Up.below {w0 w w' : World} (h : Below w.heap.size w w') : Up w0 w w' := ⟨h.size, fun k _ h2 => h.block k h2⟩
theorem fE0 (d : Array El) (i : Nat) : fE d (i * 3) = .string d[i]!.ch := by unfold fE; rw [show i * 3 % 3 = 0 by omega, show i * 3 / 3 = i by omega]; rfl
theorem fE1 (d : Array El) (i : Nat) : fE d (i * 3 + 1) = .int .i32 d[i]!.ct := by unfold fE; rw [show (i * 3 + 1) % 3 = 1 by omega, show (i * 3 + 1) / 3 = i by omega]; rfl
theorem fE2 (d : Array El) (i : Nat) : fE d (i * 3 + 2) = .int .u8 d[i]!.ix := by unfold fE; rw [show (i * 3 + 2) % 3 = 2 by omega, show (i * 3 + 2) / 3 = i by omega]; rfl
theorem R.at {w0 w : World} {g N i : Nat} {d : Array El} (h : R w0 g N d w) (hi : i < N) : w.cell? ⟨g, i * 3, none⟩ = some (.string d[i]!.ch) ∧ w.cell? ⟨g, i * 3 + 1, none⟩ = some (.int .i32 d[i]!.ct) ∧ w.cell? ⟨g, i * 3 + 2, none⟩ = some (.int .u8 d[i]!.ix) := by
  refine ⟨?_, ?_, ?_⟩
  · rw [h.row.cell (i := i * 3) (by omega), fE0]
  · rw [h.row.cell (i := i * 3 + 1) (by omega), fE1]
  · rw [h.row.cell (i := i * 3 + 2) (by omega), fE2]
theorem R.big {w0 w : World} {g N : Nat} {d : Array El} (h : R w0 g N d w) : w0.heap.size ≤ w.heap.size := h.grown.size
/-- Whatever lies below w0's end is kept: the row stands. -/
theorem R.keep {w0 w w' : World} {g N : Nat} {d : Array El} (h : R w0 g N d w) (k : Below w0.heap.size w w') : R w0 g N d w' :=
  ⟨h.size, h.row.below k h.lt, ⟨k.os.trans h.grown.os, k.tape.trans h.grown.tape, k.output.trans h.grown.output, Nat.le_trans h.grown.size k.size, fun i hi hn => (k.block i hi).trans (h.grown.block i hi hn)⟩, h.lt⟩
theorem R.up {w0 w w' : World} {g N : Nat} {d : Array El} (h : R w0 g N d w) (k : Below w.heap.size w w') : R w0 g N d w' := h.keep (k.mono h.big)
abbrev rv (g N : Nat) : Value := .slice (some ⟨g, 0, none⟩) N N
def Post (w0 : World) (g N : Nat) (v : Value) (d' : Array El) (w : World) (e : Ending) (w' : World) : Prop := e = .returned v ∧ R w0 g N d' w' ∧ Up w0 w w'

theorem Post.bel {w0 w w' : World} {g N : Nat} {d : Array El} {v v' : Bool} (h : R w0 g N d w) (hb : Below w.heap.size w w') (hv : v = v') : Post w0 g N (.bool v') d w (.returned (.bool v)) w' := ⟨by rw [hv], h.up hb, Up.below hb⟩
theorem len_any (g N : Nat) (w : World) : Calls Try.prog 56 #[rv g N] w fun e w' => e = .returned (.int .i64 N) ∧ w = w' := by
  unfold rv
  go_enter Try.func56, Try.ntmps56
  go_wp2
  go_ret
  exact ⟨rfl, rfl⟩
set_option maxHeartbeats 2000000 in
set_option maxRecDepth 100000 in
theorem less_any {w0 w : World} {g N : Nat} {d : Array El} (h : R w0 g N d w) (i j : Nat) (hi : i < N) (hj : j < N) :
    Calls Try.prog 57 #[rv g N, .int .i64 i, .int .i64 j] w (Post w0 g N (.bool (ltE d[i]! d[j]!)) d w) := by
  unfold rv
  obtain ⟨a0, a1, a2⟩ := h.at hi
  obtain ⟨b0, b1, b2⟩ := h.at hj
  have hg : g < w.heap.size := Nat.lt_of_lt_of_le h.lt h.big
  obtain ⟨x, hx⟩ : ∃ x, d[i]! = x := ⟨_, rfl⟩
  obtain ⟨y, hy⟩ : ∃ y, d[j]! = y := ⟨_, rfl⟩
  rw [hx] at a0 a1 a2 ⊢
  rw [hy] at b0 b1 b2 ⊢
  obtain ⟨xc, xt, xi⟩ := x
  obtain ⟨yc, yt, yi⟩ := y
  simp only at a0 a1 a2 b0 b1 b2
  have H := Lib.hid h
  clear h hx hy
  by_cases h1 : yt < xt
  · go_enter Try.func57, Try.ntmps57
    go_wp2
    go_ret
    exact Post.bel H.out (((Below.refl _ _).alloc (Nat.le_refl _) _).alloc (by simp) _) (by simp [ltE, h1])
  · by_cases h2 : xt = yt
    · subst h2
      by_cases h3 : xi < yi
      · go_enter Try.func57, Try.ntmps57
        go_wp2
        go_ret
        exact Post.bel H.out (((Below.refl _ _).alloc (Nat.le_refl _) _).alloc (by simp) _) (by simp [ltE, h3])
      · go_enter Try.func57, Try.ntmps57
        go_wp2
        go_ret
        exact Post.bel H.out (((Below.refl _ _).alloc (Nat.le_refl _) _).alloc (by simp) _) (by simp [ltE, h3])
    · have h4 : (xt == yt) = false := by simpa using h2
      have HH := Lib.hid h2
      clear h2
      go_enter Try.func57, Try.ntmps57
      go_wp2
      go_ret
      exact Post.bel H.out (((Below.refl _ _).alloc (Nat.le_refl _) _).alloc (by simp) _) (by simp [ltE, h1, HH.out])
theorem swp_get (d : Array El) {i j : Nat} (hi : i < d.size) (hj : j < d.size) (k : Nat) : (swp d i j)[k]! = if k = j then d[i]! else if k = i then d[j]! else d[k]! := by
  by_cases e1 : k = j
  · subst e1
    rw [if_pos rfl, swp_right d i k hj]
  · rw [if_neg e1]
    by_cases e2 : k = i
    · subst e2
      rw [if_pos rfl, swp_left d k j hi e1]
    · rw [if_neg e2, swp_other d i j k e2 e1]
/-- Only block g has changed. -/
structure Gs (g : Nat) (w w' : World) : Prop where
  os : w'.os = w.os
  tape : w'.tape = w.tape
  output : w'.output = w.output
  size : w'.heap.size = w.heap.size
  block : ∀ k, k ≠ g → w'.heap[k]? = w.heap[k]?
theorem Gs.refl (g : Nat) (w : World) : Gs g w w := ⟨rfl, rfl, rfl, rfl, fun _ _ => rfl⟩
theorem Gs.set {g : Nat} {w w' : World} (h : Gs g w w') (o : Nat) (v : Value) : Gs g w (w'.setCell ⟨g, o, none⟩ v) :=
  ⟨h.os, h.tape, h.output, by rw [← h.size]; simp [World.setCell], fun k hk => by rw [Below.heap_setCell w' ⟨g, o, none⟩ v k hk]; exact h.block k hk⟩
theorem Gs.drew {g : Nat} {w w' : World} (h : Gs g w w') : Gs g w w'.drew := ⟨h.os, h.tape, h.output, h.size, h.block⟩
theorem R.gs {w0 w w' : World} {g N : Nat} {d d' : Array El} (h : R w0 g N d w) (k : Gs g w w') (hs : d'.size = N) (hr : Row w' g 38 (N * 3) (fE d')) : R w0 g N d' w' ∧ Up w0 w w' :=
  ⟨⟨hs, hr, ⟨k.os.trans h.grown.os, k.tape.trans h.grown.tape, k.output.trans h.grown.output, by rw [k.size]; exact h.grown.size, fun i hi hn => by rw [k.block i (fun e => hn (by rw [e]))]; exact h.grown.block i hi hn⟩, h.lt⟩, by rw [k.size]; exact Nat.le_refl _, fun i hi _ => k.block i (by have := h.lt; omega)⟩
theorem swap_fn {N i j : Nat} {d : Array El} {x y : El} (hs : d.size = N) (hx : d[i]! = x) (hy : d[j]! = y) (hi : i < N) (hj : j < N) (m : Nat) :
    (if m = j * 3 + 2 then (.int .u8 x.ix : Value) else if m = j * 3 + 1 then .int .i32 x.ct else if m = j * 3 then .string x.ch else if m = i * 3 + 2 then .int .u8 y.ix else if m = i * 3 + 1 then .int .i32 y.ct else if m = i * 3 then .string y.ch else fE d m) = fE (swp d i j) m := by
  obtain ⟨q, r, hr, rfl⟩ : ∃ q r, r < 3 ∧ m = q * 3 + r := ⟨m / 3, m % 3, Nat.mod_lt _ (by decide), by omega⟩
  unfold fE
  rw [show (q * 3 + r) / 3 = q by omega, show (q * 3 + r) % 3 = r by omega, swp_get d (by omega) (by omega)]
  by_cases e1 : q = j
  · subst e1
    rw [if_pos (rfl : q = q), hx]
    rcases (by omega : r = 0 ∨ r = 1 ∨ r = 2) with rfl | rfl | rfl
    · rw [if_neg (by omega), if_neg (by omega), if_pos (by omega)]; rfl
    · rw [if_neg (by omega), if_pos (by omega)]; rfl
    · rw [if_pos (by omega)]; rfl
  · rw [if_neg e1, if_neg (by omega), if_neg (by omega), if_neg (by omega)]
    by_cases e2 : q = i
    · subst e2
      rw [if_pos (rfl : q = q), hy]
      rcases (by omega : r = 0 ∨ r = 1 ∨ r = 2) with rfl | rfl | rfl
      · rw [if_neg (by omega), if_neg (by omega), if_pos (by omega)]; rfl
      · rw [if_neg (by omega), if_pos (by omega)]; rfl
      · rw [if_pos (by omega)]; rfl
    · rw [if_neg e2, if_neg (by omega), if_neg (by omega), if_neg (by omega)]
theorem swap_row {w0 w : World} {g N i j : Nat} {d : Array El} {x y : El} (h : R w0 g N d w) (hx : d[i]! = x) (hy : d[j]! = y) (hi : (i : Int) < N) (hj : (j : Int) < N) {W : World}
    (hW : W = ((((((w.setCell ⟨g, i * 3, none⟩ (.string y.ch)).setCell ⟨g, i * 3 + 1, none⟩ (.int .i32 y.ct)).setCell ⟨g, i * 3 + 2, none⟩ (.int .u8 y.ix)).setCell ⟨g, j * 3, none⟩ (.string x.ch)).setCell ⟨g, j * 3 + 1, none⟩ (.int .i32 x.ct)).setCell ⟨g, j * 3 + 2, none⟩ (.int .u8 x.ix)).drew) :
    R w0 g N (swp d i j) W ∧ Up w0 w W := by
  have k : Gs g w W := by rw [hW]; exact ((((((Gs.refl g w).set _ _).set _ _).set _ _).set _ _).set _ _).set _ _ |>.drew
  refine h.gs k (by rw [size_swp]; exact h.size) ?_
  rw [hW]
  have r := ((((((h.row.set (i * 3) (.string y.ch)).set (i * 3 + 1) (.int .i32 y.ct)).set (i * 3 + 2) (.int .u8 y.ix)).set (j * 3) (.string x.ch)).set (j * 3 + 1) (.int .i32 x.ct)).set (j * 3 + 2) (.int .u8 x.ix))
  exact (r.congr fun m _ => swap_fn h.size hx hy (by omega) (by omega) m).drewN 1

set_option maxHeartbeats 4000000 in
set_option maxRecDepth 100000 in
theorem swap_ne {w0 w : World} {g N : Nat} {d : Array El} (h : R w0 g N d w) (i j : Nat) (hi : i < N) (hj : j < N) (hne : i ≠ j) :
    Calls Try.prog 58 #[rv g N, .int .i64 i, .int .i64 j] w (Post w0 g N (.tuple #[]) (swp d i j) w) := by
  unfold rv
  obtain ⟨a0, a1, a2⟩ := h.at hi
  obtain ⟨b0, b1, b2⟩ := h.at hj
  have hg : g < w.heap.size := Nat.lt_of_lt_of_le h.lt h.big
  obtain ⟨x, hx⟩ : ∃ x, d[i]! = x := ⟨_, rfl⟩
  obtain ⟨y, hy⟩ : ∃ y, d[j]! = y := ⟨_, rfl⟩
  rw [hx] at a0 a1 a2
  rw [hy] at b0 b1 b2
  have f0 := h.row.frozen (i * 3)
  have f1 := h.row.frozen (i * 3 + 1)
  have f2 := h.row.frozen (i * 3 + 2)
  have g0 := h.row.frozen (j * 3)
  have g1 := h.row.frozen (j * 3 + 1)
  have g2 := h.row.frozen (j * 3 + 2)
  have z1 : (0 : Int) ≤ (i : Int) := by omega
  have z2 : (i : Int) < (N : Int) := by omega
  have z3 : (0 : Int) ≤ (j : Int) := by omega
  have z4 : (j : Int) < (N : Int) := by omega
  have e00 : ¬ i * 3 = j * 3 := by omega
  have e01 : ¬ i * 3 = j * 3 + 1 := by omega
  have e02 : ¬ i * 3 = j * 3 + 2 := by omega
  have e10 : ¬ i * 3 + 1 = j * 3 := by omega
  have e12 : ¬ i * 3 + 1 = j * 3 + 2 := by omega
  have e20 : ¬ i * 3 + 2 = j * 3 := by omega
  have e21 : ¬ i * 3 + 2 = j * 3 + 1 := by omega
  have k00 : ¬ j * 3 = i * 3 := by omega
  have k01 : ¬ j * 3 = i * 3 + 1 := by omega
  have k02 : ¬ j * 3 = i * 3 + 2 := by omega
  have k10 : ¬ j * 3 + 1 = i * 3 := by omega
  have k12 : ¬ j * 3 + 1 = i * 3 + 2 := by omega
  have k20 : ¬ j * 3 + 2 = i * 3 := by omega
  have k21 : ¬ j * 3 + 2 = i * 3 + 1 := by omega
  have hnn : ¬ i = j := hne
  have hnm : ¬ j = i := fun e => hne e.symm
  have H := Lib.hid (And.intro h (And.intro hx hy))
  clear h hx hy hne hi hj
  go_enter Try.func58, Try.ntmps58
  go_wp2
  go_region
  go_end0
  exact ⟨rfl, swap_row H.out.1 H.out.2.1 H.out.2.2 z2 z4 rfl⟩
set_option maxHeartbeats 4000000 in
set_option maxRecDepth 100000 in
theorem swap_eq {w0 w : World} {g N : Nat} {d : Array El} (h : R w0 g N d w) (i : Nat) (hi : i < N) :
    Calls Try.prog 58 #[rv g N, .int .i64 i, .int .i64 i] w (Post w0 g N (.tuple #[]) (swp d i i) w) := by
  unfold rv
  obtain ⟨a0, a1, a2⟩ := h.at hi
  have hg : g < w.heap.size := Nat.lt_of_lt_of_le h.lt h.big
  obtain ⟨x, hx⟩ : ∃ x, d[i]! = x := ⟨_, rfl⟩
  rw [hx] at a0 a1 a2
  have f0 := h.row.frozen (i * 3)
  have f1 := h.row.frozen (i * 3 + 1)
  have f2 := h.row.frozen (i * 3 + 2)
  have z1 : (0 : Int) ≤ (i : Int) := by omega
  have z2 : (i : Int) < (N : Int) := by omega
  have H := Lib.hid (And.intro h hx)
  clear h hx hi
  go_enter Try.func58, Try.ntmps58
  go_wp2
  go_region
  go_end0
  exact ⟨rfl, swap_row H.out.1 H.out.2 H.out.2 z2 z2 rfl⟩
theorem swap_any {w0 w : World} {g N : Nat} {d : Array El} (h : R w0 g N d w) (i j : Nat) (hi : i < N) (hj : j < N) : Calls Try.prog 58 #[rv g N, .int .i64 i, .int .i64 j] w (Post w0 g N (.tuple #[]) (swp d i j) w) := by
  by_cases e : i = j
  · subst e
    exact swap_eq h i hi
  · exact swap_ne h i j hi hj e
end Go.Proofs.Ytmnoffiblcnjpaa
