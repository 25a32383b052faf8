/-
  The contract of building the function token; conditions: those that each names.
-/
import Derived.Test.YtjanppdeddfehaaFmtTkn
namespace Go.Proofs.YtjanppdeddfehaaFmt
open Go.RowKit

/-- The children, one by one. -/
def kid (a b c d e f : ByteArray) (ws : Int) (j : Nat) : Tk := match j with
  | 0 => num a ws
  | 2 => num b ws
  | 4 => num c ws
  | 6 => num d ws
  | 8 => num e ws
  | 10 => num f ws
  | _ => com ws
def put7 (w : World) (g o : Nat) (x : Tk) : World :=
  (((((((w.setCell ⟨g, o, none⟩ (.pointer none)).setCell ⟨g, o + 1, none⟩ (.string x.t)).setCell ⟨g, o + 2, none⟩ (.int .i32 0)).setCell ⟨g, o + 3, none⟩ (.int .u32 0)).setCell ⟨g, o + 4, none⟩ (.int .u16 0)).setCell ⟨g, o + 5, none⟩ (.int .u8 x.k)).setCell ⟨g, o + 6, none⟩ (.int .u8 x.ws))
/-- Block g is a row of n tokens' cells. -/
def Blk (w : World) (g n : Nat) : Prop := ∃ cs : Array Value, w.heap[g]? = some (.cells cs 37 (0, 0)) ∧ cs.size = n
theorem Blk.cell {w : World} {g n : Nat} (h : Blk w g n) {j : Nat} (hj : j < n) : ∃ u, w.cell? ⟨g, j, none⟩ = some u := by
  obtain ⟨cs, h1, h2⟩ := h
  exact ⟨cs[j], (Lib.cell_of_heap h1 j).trans (Array.getElem?_eq_getElem (by omega))⟩
theorem Blk.frozen {w : World} {g n : Nat} (h : Blk w g n) (j : Nat) : w.frozen? ⟨g, j, none⟩ = false := by
  obtain ⟨cs, h1, h2⟩ := h
  exact Lib.frozen_of_heap h1 j
theorem Blk.set {w : World} {g n : Nat} (h : Blk w g n) (o : Nat) (v : Value) : Blk (w.setCell ⟨g, o, none⟩ v) g n := by
  obtain ⟨cs, h1, h2⟩ := h
  exact ⟨cs.set! o v, by simp [World.setCell, Array.getElem?_modify, h1], by simp [h2]⟩
theorem Blk.same {w : World} {g n o : Nat} (h : Blk w g n) (v : Value) (ho : o < n) : (w.setCell ⟨g, o, none⟩ v).cell? ⟨g, o, none⟩ = some v := by
  obtain ⟨cs, h1, h2⟩ := h
  have h3 : (w.setCell ⟨g, o, none⟩ v).heap[g]? = some (.cells (cs.set! o v) 37 (0, 0)) := by simp [World.setCell, Array.getElem?_modify, h1]
  exact (Lib.cell_of_heap h3 o).trans (by simp [h2, ho])
theorem Blk.other {w : World} {g n o p : Nat} (h : Blk w g n) (v : Value) (hp : p ≠ o) : (w.setCell ⟨g, o, none⟩ v).cell? ⟨g, p, none⟩ = w.cell? ⟨g, p, none⟩ := by
  obtain ⟨cs, h1, h2⟩ := h
  have h3 : (w.setCell ⟨g, o, none⟩ v).heap[g]? = some (.cells (cs.set! o v) 37 (0, 0)) := by simp [World.setCell, Array.getElem?_modify, h1]
  rw [Lib.cell_of_heap h3 p, Lib.cell_of_heap h1 p]
  have : o ≠ p := fun e => hp e.symm
  simp [this]
theorem put7_blk {w : World} {g n : Nat} (h : Blk w g n) (o : Nat) (x : Tk) : Blk (put7 w g o x) g n := ((((((h.set _ _).set _ _).set _ _).set _ _).set _ _).set _ _).set _ _
theorem put7_out {w : World} {g n o p : Nat} (h : Blk w g n) (x : Tk) (hp : p < o ∨ o + 7 ≤ p) : (put7 w g o x).cell? ⟨g, p, none⟩ = w.cell? ⟨g, p, none⟩ := by
  unfold put7
  have h1 := h.set o (.pointer none)
  have h2 := h1.set (o + 1) (.string x.t)
  have h3 := h2.set (o + 2) (.int .i32 0)
  have h4 := h3.set (o + 3) (.int .u32 0)
  have h5 := h4.set (o + 4) (.int .u16 0)
  have h6 := h5.set (o + 5) (.int .u8 x.k)
  rw [h6.other _ (by omega), h5.other _ (by omega), h4.other _ (by omega), h3.other _ (by omega), h2.other _ (by omega), h1.other _ (by omega), h.other _ (by omega)]
theorem put7_at {w : World} {g n o : Nat} (h : Blk w g n) (x : Tk) (ho : o + 7 ≤ n) : TkAt (put7 w g o x) g o x := by
  unfold put7
  have h1 := h.set o (.pointer none)
  have h2 := h1.set (o + 1) (.string x.t)
  have h3 := h2.set (o + 2) (.int .i32 0)
  have h4 := h3.set (o + 3) (.int .u32 0)
  have h5 := h4.set (o + 4) (.int .u16 0)
  have h6 := h5.set (o + 5) (.int .u8 x.k)
  constructor
  · rw [h6.other _ (by omega), h5.other _ (by omega), h4.other _ (by omega), h3.other _ (by omega), h2.other _ (by omega), h1.other _ (by omega), h.same _ (by omega)]
  · rw [h6.other _ (by omega), h5.other _ (by omega), h4.other _ (by omega), h3.other _ (by omega), h2.other _ (by omega), h1.same _ (by omega)]
  · rw [h6.other _ (by omega), h5.other _ (by omega), h4.other _ (by omega), h3.other _ (by omega), h2.same _ (by omega)]
  · rw [h6.other _ (by omega), h5.other _ (by omega), h4.other _ (by omega), h3.same _ (by omega)]
  · rw [h6.other _ (by omega), h5.other _ (by omega), h4.same _ (by omega)]
  · rw [h6.other _ (by omega), h5.same _ (by omega)]
  · rw [h6.same _ (by omega)]
theorem put7_below {w0 w : World} {B g : Nat} (h : Below B w0 w) (hg : B ≤ g) (o : Nat) (x : Tk) : Below B w0 (put7 w g o x) :=
  ((((((h.setCell (p := ⟨g, o, none⟩) hg _).setCell (p := ⟨g, o + 1, none⟩) hg _).setCell (p := ⟨g, o + 2, none⟩) hg _).setCell (p := ⟨g, o + 3, none⟩) hg _).setCell (p := ⟨g, o + 4, none⟩) hg _).setCell (p := ⟨g, o + 5, none⟩) hg _).setCell (p := ⟨g, o + 6, none⟩) hg _
theorem put7_heap (w : World) (g o : Nat) (x : Tk) {i : Nat} (hi : i ≠ g) : (put7 w g o x).heap[i]? = w.heap[i]? := by
  unfold put7
  rw [Below.heap_setCell _ _ _ _ hi, Below.heap_setCell _ _ _ _ hi, Below.heap_setCell _ _ _ _ hi, Below.heap_setCell _ _ _ _ hi, Below.heap_setCell _ _ _ _ hi, Below.heap_setCell _ _ _ _ hi, Below.heap_setCell _ _ _ _ hi]
theorem put7_size (w : World) (g o : Nat) (x : Tk) : (put7 w g o x).heap.size = w.heap.size := by
  unfold put7
  simp [World.setCell]
theorem TkAt.out {w w' : World} {g o : Nat} {x : Tk} (h : TkAt w g o x) (he : ∀ p, o ≤ p → p < o + 7 → w'.cell? ⟨g, p, none⟩ = w.cell? ⟨g, p, none⟩) : TkAt w' g o x :=
  ⟨(he _ (by omega) (by omega)).trans h.c0, (he _ (by omega) (by omega)).trans h.c1, (he _ (by omega) (by omega)).trans h.c2, (he _ (by omega) (by omega)).trans h.c3, (he _ (by omega) (by omega)).trans h.c4, (he _ (by omega) (by omega)).trans h.c5, (he _ (by omega) (by omega)).trans h.c6⟩
/-- k children lie in block g. -/
def Kids (w : World) (g : Nat) (K : Nat → Tk) (k : Nat) : Prop := Blk w g 77 ∧ ∀ j, j < k → TkAt w g (j * 7) (K j)
theorem Kids.next {w : World} {g : Nat} {K : Nat → Tk} {k : Nat} (h : Kids w g K k) (hk : k < 11) : Kids (put7 w g (k * 7) (K k)) g K (k + 1) := by
  refine ⟨put7_blk h.1 _ _, fun j hj => ?_⟩
  by_cases he : j = k
  · subst he
    exact put7_at h.1 _ (by omega)
  · exact (h.2 j (by omega)).out fun p h1 h2 => put7_out h.1 _ (by omega)
theorem Kids.drew {w : World} {g : Nat} {K : Nat → Tk} {k : Nat} (h : Kids w g K k) : Kids w.drew g K k :=
  ⟨h.1, fun j hj => (h.2 j hj).out fun _ _ _ => rfl⟩
/-- The function token that was built. -/
structure Fn (w : World) (tb bx cb : Nat) (nm : ByteArray) (K : Nat → Tk) : Prop where
  htk : w.heap[tb]? = some (.cells #[.pointer (some ⟨bx, 0, none⟩), .string nm, .int .i32 0, .int .u32 0, .int .u16 0, .int .u8 27, .int .u8 0] 37 (0, 0))
  hbx : w.heap[bx]? = some (.cells #[.slice (some ⟨cb, 0, none⟩) 11 11] 26 (0, 0))
  hks : Kids w cb K 11
  ne : tb ≠ cb ∧ tb ≠ bx ∧ bx ≠ cb
def BRel (w : World) (K : Nat → Tk) (s9 : Value) (wr : World) : Prop :=
  ∃ k : Nat, k ≤ 11 ∧ s9 = .int .i64 k ∧ Below w.heap.size w wr ∧ wr.heap.size = w.heap.size + 3 ∧ wr.heap[w.heap.size + 1]? = some (.cells #[.slice (some ⟨w.heap.size + 2, 0, none⟩) 11 11] 26 (0, 0)) ∧ Kids wr (w.heap.size + 2) K k
def BEnd (w : World) (nm : ByteArray) (K : Nat → Tk) (e : Ending) (w' : World) : Prop := ∃ tb bx cb, e = .returned (.slice (some ⟨tb, 0, none⟩) 1 1) ∧ w.heap.size ≤ tb ∧ w.heap.size ≤ bx ∧ w.heap.size ≤ cb ∧ Fn w' tb bx cb nm K ∧ Below w.heap.size w w'
theorem BRel.next {w : World} {K : Nat → Tk} {k o : Nat} {n : Int} {x : Tk} {wr : World} (ho : k * 7 = o) (hx0 : K k = x) (hn : ((k + 1 : Nat) : Int) = n) (hk : k < 11) (hb : Below w.heap.size w wr) (hs : wr.heap.size = w.heap.size + 3) (hx : wr.heap[w.heap.size + 1]? = some (.cells #[.slice (some ⟨w.heap.size + 2, 0, none⟩) 11 11] 26 (0, 0))) (hK : Kids wr (w.heap.size + 2) K k) :
    BRel w K (.int .i64 n) (put7 wr (w.heap.size + 2) o x) := by
  subst ho hx0 hn
  exact ⟨k + 1, by omega, rfl, put7_below hb (by omega) _ _, (put7_size _ _ _ _).trans hs, (put7_heap _ _ _ _ (by omega)).trans hx, hK.next hk⟩

theorem BRel.drew {w : World} {K : Nat → Tk} {v : Value} {wr : World} (h : BRel w K v wr) : BRel w K v wr.drew := by
  obtain ⟨k, h1, h2, h3, h4, h5, h6⟩ := h
  exact ⟨k, h1, h2, h3.drew, h4, h5, h6.drew⟩
set_option maxHeartbeats 16000000 in
set_option maxRecDepth 100000 in
theorem buildfn_any (nm a b c d e f : ByteArray) (vb : Nat) (ws : Int) (w : World) (v0 : w.cell? ⟨vb, 0, none⟩ = some (.string a)) (v1 : w.cell? ⟨vb, 1, none⟩ = some (.string b)) (v2 : w.cell? ⟨vb, 2, none⟩ = some (.string c)) (v3 : w.cell? ⟨vb, 3, none⟩ = some (.string d)) (v4 : w.cell? ⟨vb, 4, none⟩ = some (.string e)) (v5 : w.cell? ⟨vb, 5, none⟩ = some (.string f)) :
    Calls Tryf.prog 7 #[.string nm, .slice (some ⟨vb, 0, none⟩) 6 6, .int .u8 ws] w (BEnd w nm (kid a b c d e f ws)) := by
  obtain ⟨Z, hmk, hZ⟩ := make11
  have HV := Lib.hid (And.intro v0 (And.intro v1 (And.intro v2 (And.intro v3 (And.intro v4 v5)))))
  have hvl := World.block_lt_of_cell? w _ v0
  have HZ := Lib.hid hZ
  clear hZ v0 v1 v2 v3 v4 v5
  go_enter Tryf.func7, Tryf.ntmps7
  go_wp2_with fail
  go_loopw [9] (fun s9 wr => BRel w (kid a b c d e f ws) s9 wr) (fun s9 _ => 11 - (intOf s9).toNat)
  case atStart =>
    have e1 : ((w.alloc (Obj.cells #[] 37)).alloc (Obj.cells #[Value.slice (some { block := w.heap.size + 1 + 1, off := 0 }) 11 11] 26)).heap.size = w.heap.size + 2 := by simp
    have e2 : (w.alloc (Obj.cells #[] 37)).heap.size = w.heap.size + 1 := by simp
    refine ⟨0, by omega, rfl, (((Below.refl _ _).alloc (Nat.le_refl _) _).alloc (by simp) _).alloc (by simp; omega) _, by simp, ?_, ⟨⟨Z, ?_, HZ.out⟩, fun j hj => by omega⟩⟩
    · have h1 := heap_alloc_new (w.alloc (Obj.cells #[] 37)) (Obj.cells #[Value.slice (some { block := w.heap.size + 1 + 1, off := 0 }) 11 11] 26)
      rw [e2] at h1
      exact (((Below.refl _ _).alloc (Nat.le_refl _) (Obj.cells Z 37)).block _ (by rw [e1]; omega)).trans h1
    · have h1 := heap_alloc_new ((w.alloc (Obj.cells #[] 37)).alloc (Obj.cells #[Value.slice (some { block := w.heap.size + 1 + 1, off := 0 }) 11 11] 26)) (Obj.cells Z 37)
      rw [e1] at h1
      exact h1
  case round =>
    obtain ⟨k, hk, rfl, hb, hs, hbx, hK⟩ := hrel
    have hcbx : wr.cell? ⟨w.heap.size + 1, 0, none⟩ = some (.slice (some ⟨w.heap.size + 2, 0, none⟩) 11 11) := (Lib.cell_of_heap hbx 0).trans rfl
    by_cases hlt : k < 11
    · rcases (show k = 0 ∨ k = 1 ∨ k = 2 ∨ k = 3 ∨ k = 4 ∨ k = 5 ∨ k = 6 ∨ k = 7 ∨ k = 8 ∨ k = 9 ∨ k = 10 by omega) with rfl | rfl | rfl | rfl | rfl | rfl | rfl | rfl | rfl | rfl | rfl
      · have hv : wr.cell? ⟨vb, 0, none⟩ = some (.string a) := (hb.cell (p := ⟨vb, 0, none⟩) hvl).trans HV.out.1
        obtain ⟨u0, e0⟩ := hK.1.cell (j := 0) (by omega)
        obtain ⟨u1, e1⟩ := hK.1.cell (j := 1) (by omega)
        obtain ⟨u2, e2⟩ := hK.1.cell (j := 2) (by omega)
        obtain ⟨u3, e3⟩ := hK.1.cell (j := 3) (by omega)
        obtain ⟨u4, e4⟩ := hK.1.cell (j := 4) (by omega)
        obtain ⟨u5, e5⟩ := hK.1.cell (j := 5) (by omega)
        obtain ⟨u6, e6⟩ := hK.1.cell (j := 6) (by omega)
        have f0 := hK.1.frozen 0
        have f1 := hK.1.frozen 1
        have f2 := hK.1.frozen 2
        have f3 := hK.1.frozen 3
        have f4 := hK.1.frozen 4
        have f5 := hK.1.frozen 5
        have f6 := hK.1.frozen 6
        have HR := Lib.hid (And.intro hb (And.intro hs (And.intro hbx hK)))
        clear hb hs hbx hK
        go_wp2_with fail
        go_region
        all_goals (
          go_wp2_with fail
          have h := (BRel.next (k := 0) (o := 0) (n := 1) (x := (num a ws)) rfl rfl rfl (by omega) HR.out.1 HR.out.2.1 HR.out.2.2.1 HR.out.2.2.2).drew
          unfold put7 num at h
          exact ⟨h, by simp [intOf]⟩)
      · obtain ⟨u0, e0⟩ := hK.1.cell (j := 7) (by omega)
        obtain ⟨u1, e1⟩ := hK.1.cell (j := 8) (by omega)
        obtain ⟨u2, e2⟩ := hK.1.cell (j := 9) (by omega)
        obtain ⟨u3, e3⟩ := hK.1.cell (j := 10) (by omega)
        obtain ⟨u4, e4⟩ := hK.1.cell (j := 11) (by omega)
        obtain ⟨u5, e5⟩ := hK.1.cell (j := 12) (by omega)
        obtain ⟨u6, e6⟩ := hK.1.cell (j := 13) (by omega)
        have f0 := hK.1.frozen 7
        have f1 := hK.1.frozen 8
        have f2 := hK.1.frozen 9
        have f3 := hK.1.frozen 10
        have f4 := hK.1.frozen 11
        have f5 := hK.1.frozen 12
        have f6 := hK.1.frozen 13
        have HR := Lib.hid (And.intro hb (And.intro hs (And.intro hbx hK)))
        clear hb hs hbx hK
        go_wp2_with fail
        have h := BRel.next (k := 1) (o := 7) (n := 2) (x := (com ws)) rfl rfl rfl (by omega) HR.out.1 HR.out.2.1 HR.out.2.2.1 HR.out.2.2.2
        unfold put7 com comS at h
        exact ⟨h, by simp [intOf]⟩
      · have hv : wr.cell? ⟨vb, 1, none⟩ = some (.string b) := (hb.cell (p := ⟨vb, 1, none⟩) hvl).trans HV.out.2.1
        obtain ⟨u0, e0⟩ := hK.1.cell (j := 14) (by omega)
        obtain ⟨u1, e1⟩ := hK.1.cell (j := 15) (by omega)
        obtain ⟨u2, e2⟩ := hK.1.cell (j := 16) (by omega)
        obtain ⟨u3, e3⟩ := hK.1.cell (j := 17) (by omega)
        obtain ⟨u4, e4⟩ := hK.1.cell (j := 18) (by omega)
        obtain ⟨u5, e5⟩ := hK.1.cell (j := 19) (by omega)
        obtain ⟨u6, e6⟩ := hK.1.cell (j := 20) (by omega)
        have f0 := hK.1.frozen 14
        have f1 := hK.1.frozen 15
        have f2 := hK.1.frozen 16
        have f3 := hK.1.frozen 17
        have f4 := hK.1.frozen 18
        have f5 := hK.1.frozen 19
        have f6 := hK.1.frozen 20
        have HR := Lib.hid (And.intro hb (And.intro hs (And.intro hbx hK)))
        clear hb hs hbx hK
        go_wp2_with fail
        go_region
        all_goals (
          go_wp2_with fail
          have h := (BRel.next (k := 2) (o := 14) (n := 3) (x := (num b ws)) rfl rfl rfl (by omega) HR.out.1 HR.out.2.1 HR.out.2.2.1 HR.out.2.2.2).drew
          unfold put7 num at h
          exact ⟨h, by simp [intOf]⟩)
      · obtain ⟨u0, e0⟩ := hK.1.cell (j := 21) (by omega)
        obtain ⟨u1, e1⟩ := hK.1.cell (j := 22) (by omega)
        obtain ⟨u2, e2⟩ := hK.1.cell (j := 23) (by omega)
        obtain ⟨u3, e3⟩ := hK.1.cell (j := 24) (by omega)
        obtain ⟨u4, e4⟩ := hK.1.cell (j := 25) (by omega)
        obtain ⟨u5, e5⟩ := hK.1.cell (j := 26) (by omega)
        obtain ⟨u6, e6⟩ := hK.1.cell (j := 27) (by omega)
        have f0 := hK.1.frozen 21
        have f1 := hK.1.frozen 22
        have f2 := hK.1.frozen 23
        have f3 := hK.1.frozen 24
        have f4 := hK.1.frozen 25
        have f5 := hK.1.frozen 26
        have f6 := hK.1.frozen 27
        have HR := Lib.hid (And.intro hb (And.intro hs (And.intro hbx hK)))
        clear hb hs hbx hK
        go_wp2_with fail
        have h := BRel.next (k := 3) (o := 21) (n := 4) (x := (com ws)) rfl rfl rfl (by omega) HR.out.1 HR.out.2.1 HR.out.2.2.1 HR.out.2.2.2
        unfold put7 com comS at h
        exact ⟨h, by simp [intOf]⟩
      · have hv : wr.cell? ⟨vb, 2, none⟩ = some (.string c) := (hb.cell (p := ⟨vb, 2, none⟩) hvl).trans HV.out.2.2.1
        obtain ⟨u0, e0⟩ := hK.1.cell (j := 28) (by omega)
        obtain ⟨u1, e1⟩ := hK.1.cell (j := 29) (by omega)
        obtain ⟨u2, e2⟩ := hK.1.cell (j := 30) (by omega)
        obtain ⟨u3, e3⟩ := hK.1.cell (j := 31) (by omega)
        obtain ⟨u4, e4⟩ := hK.1.cell (j := 32) (by omega)
        obtain ⟨u5, e5⟩ := hK.1.cell (j := 33) (by omega)
        obtain ⟨u6, e6⟩ := hK.1.cell (j := 34) (by omega)
        have f0 := hK.1.frozen 28
        have f1 := hK.1.frozen 29
        have f2 := hK.1.frozen 30
        have f3 := hK.1.frozen 31
        have f4 := hK.1.frozen 32
        have f5 := hK.1.frozen 33
        have f6 := hK.1.frozen 34
        have HR := Lib.hid (And.intro hb (And.intro hs (And.intro hbx hK)))
        clear hb hs hbx hK
        go_wp2_with fail
        go_region
        all_goals (
          go_wp2_with fail
          have h := (BRel.next (k := 4) (o := 28) (n := 5) (x := (num c ws)) rfl rfl rfl (by omega) HR.out.1 HR.out.2.1 HR.out.2.2.1 HR.out.2.2.2).drew
          unfold put7 num at h
          exact ⟨h, by simp [intOf]⟩)
      · obtain ⟨u0, e0⟩ := hK.1.cell (j := 35) (by omega)
        obtain ⟨u1, e1⟩ := hK.1.cell (j := 36) (by omega)
        obtain ⟨u2, e2⟩ := hK.1.cell (j := 37) (by omega)
        obtain ⟨u3, e3⟩ := hK.1.cell (j := 38) (by omega)
        obtain ⟨u4, e4⟩ := hK.1.cell (j := 39) (by omega)
        obtain ⟨u5, e5⟩ := hK.1.cell (j := 40) (by omega)
        obtain ⟨u6, e6⟩ := hK.1.cell (j := 41) (by omega)
        have f0 := hK.1.frozen 35
        have f1 := hK.1.frozen 36
        have f2 := hK.1.frozen 37
        have f3 := hK.1.frozen 38
        have f4 := hK.1.frozen 39
        have f5 := hK.1.frozen 40
        have f6 := hK.1.frozen 41
        have HR := Lib.hid (And.intro hb (And.intro hs (And.intro hbx hK)))
        clear hb hs hbx hK
        go_wp2_with fail
        have h := BRel.next (k := 5) (o := 35) (n := 6) (x := (com ws)) rfl rfl rfl (by omega) HR.out.1 HR.out.2.1 HR.out.2.2.1 HR.out.2.2.2
        unfold put7 com comS at h
        exact ⟨h, by simp [intOf]⟩
      · have hv : wr.cell? ⟨vb, 3, none⟩ = some (.string d) := (hb.cell (p := ⟨vb, 3, none⟩) hvl).trans HV.out.2.2.2.1
        obtain ⟨u0, e0⟩ := hK.1.cell (j := 42) (by omega)
        obtain ⟨u1, e1⟩ := hK.1.cell (j := 43) (by omega)
        obtain ⟨u2, e2⟩ := hK.1.cell (j := 44) (by omega)
        obtain ⟨u3, e3⟩ := hK.1.cell (j := 45) (by omega)
        obtain ⟨u4, e4⟩ := hK.1.cell (j := 46) (by omega)
        obtain ⟨u5, e5⟩ := hK.1.cell (j := 47) (by omega)
        obtain ⟨u6, e6⟩ := hK.1.cell (j := 48) (by omega)
        have f0 := hK.1.frozen 42
        have f1 := hK.1.frozen 43
        have f2 := hK.1.frozen 44
        have f3 := hK.1.frozen 45
        have f4 := hK.1.frozen 46
        have f5 := hK.1.frozen 47
        have f6 := hK.1.frozen 48
        have HR := Lib.hid (And.intro hb (And.intro hs (And.intro hbx hK)))
        clear hb hs hbx hK
        go_wp2_with fail
        go_region
        all_goals (
          go_wp2_with fail
          have h := (BRel.next (k := 6) (o := 42) (n := 7) (x := (num d ws)) rfl rfl rfl (by omega) HR.out.1 HR.out.2.1 HR.out.2.2.1 HR.out.2.2.2).drew
          unfold put7 num at h
          exact ⟨h, by simp [intOf]⟩)
      · obtain ⟨u0, e0⟩ := hK.1.cell (j := 49) (by omega)
        obtain ⟨u1, e1⟩ := hK.1.cell (j := 50) (by omega)
        obtain ⟨u2, e2⟩ := hK.1.cell (j := 51) (by omega)
        obtain ⟨u3, e3⟩ := hK.1.cell (j := 52) (by omega)
        obtain ⟨u4, e4⟩ := hK.1.cell (j := 53) (by omega)
        obtain ⟨u5, e5⟩ := hK.1.cell (j := 54) (by omega)
        obtain ⟨u6, e6⟩ := hK.1.cell (j := 55) (by omega)
        have f0 := hK.1.frozen 49
        have f1 := hK.1.frozen 50
        have f2 := hK.1.frozen 51
        have f3 := hK.1.frozen 52
        have f4 := hK.1.frozen 53
        have f5 := hK.1.frozen 54
        have f6 := hK.1.frozen 55
        have HR := Lib.hid (And.intro hb (And.intro hs (And.intro hbx hK)))
        clear hb hs hbx hK
        go_wp2_with fail
        have h := BRel.next (k := 7) (o := 49) (n := 8) (x := (com ws)) rfl rfl rfl (by omega) HR.out.1 HR.out.2.1 HR.out.2.2.1 HR.out.2.2.2
        unfold put7 com comS at h
        exact ⟨h, by simp [intOf]⟩
      · have hv : wr.cell? ⟨vb, 4, none⟩ = some (.string e) := (hb.cell (p := ⟨vb, 4, none⟩) hvl).trans HV.out.2.2.2.2.1
        obtain ⟨u0, e0⟩ := hK.1.cell (j := 56) (by omega)
        obtain ⟨u1, e1⟩ := hK.1.cell (j := 57) (by omega)
        obtain ⟨u2, e2⟩ := hK.1.cell (j := 58) (by omega)
        obtain ⟨u3, e3⟩ := hK.1.cell (j := 59) (by omega)
        obtain ⟨u4, e4⟩ := hK.1.cell (j := 60) (by omega)
        obtain ⟨u5, e5⟩ := hK.1.cell (j := 61) (by omega)
        obtain ⟨u6, e6⟩ := hK.1.cell (j := 62) (by omega)
        have f0 := hK.1.frozen 56
        have f1 := hK.1.frozen 57
        have f2 := hK.1.frozen 58
        have f3 := hK.1.frozen 59
        have f4 := hK.1.frozen 60
        have f5 := hK.1.frozen 61
        have f6 := hK.1.frozen 62
        have HR := Lib.hid (And.intro hb (And.intro hs (And.intro hbx hK)))
        clear hb hs hbx hK
        go_wp2_with fail
        go_region
        all_goals (
          go_wp2_with fail
          have h := (BRel.next (k := 8) (o := 56) (n := 9) (x := (num e ws)) rfl rfl rfl (by omega) HR.out.1 HR.out.2.1 HR.out.2.2.1 HR.out.2.2.2).drew
          unfold put7 num at h
          exact ⟨h, by simp [intOf]⟩)
      · obtain ⟨u0, e0⟩ := hK.1.cell (j := 63) (by omega)
        obtain ⟨u1, e1⟩ := hK.1.cell (j := 64) (by omega)
        obtain ⟨u2, e2⟩ := hK.1.cell (j := 65) (by omega)
        obtain ⟨u3, e3⟩ := hK.1.cell (j := 66) (by omega)
        obtain ⟨u4, e4⟩ := hK.1.cell (j := 67) (by omega)
        obtain ⟨u5, e5⟩ := hK.1.cell (j := 68) (by omega)
        obtain ⟨u6, e6⟩ := hK.1.cell (j := 69) (by omega)
        have f0 := hK.1.frozen 63
        have f1 := hK.1.frozen 64
        have f2 := hK.1.frozen 65
        have f3 := hK.1.frozen 66
        have f4 := hK.1.frozen 67
        have f5 := hK.1.frozen 68
        have f6 := hK.1.frozen 69
        have HR := Lib.hid (And.intro hb (And.intro hs (And.intro hbx hK)))
        clear hb hs hbx hK
        go_wp2_with fail
        have h := BRel.next (k := 9) (o := 63) (n := 10) (x := (com ws)) rfl rfl rfl (by omega) HR.out.1 HR.out.2.1 HR.out.2.2.1 HR.out.2.2.2
        unfold put7 com comS at h
        exact ⟨h, by simp [intOf]⟩
      · have hv : wr.cell? ⟨vb, 5, none⟩ = some (.string f) := (hb.cell (p := ⟨vb, 5, none⟩) hvl).trans HV.out.2.2.2.2.2
        obtain ⟨u0, e0⟩ := hK.1.cell (j := 70) (by omega)
        obtain ⟨u1, e1⟩ := hK.1.cell (j := 71) (by omega)
        obtain ⟨u2, e2⟩ := hK.1.cell (j := 72) (by omega)
        obtain ⟨u3, e3⟩ := hK.1.cell (j := 73) (by omega)
        obtain ⟨u4, e4⟩ := hK.1.cell (j := 74) (by omega)
        obtain ⟨u5, e5⟩ := hK.1.cell (j := 75) (by omega)
        obtain ⟨u6, e6⟩ := hK.1.cell (j := 76) (by omega)
        have f0 := hK.1.frozen 70
        have f1 := hK.1.frozen 71
        have f2 := hK.1.frozen 72
        have f3 := hK.1.frozen 73
        have f4 := hK.1.frozen 74
        have f5 := hK.1.frozen 75
        have f6 := hK.1.frozen 76
        have HR := Lib.hid (And.intro hb (And.intro hs (And.intro hbx hK)))
        clear hb hs hbx hK
        go_wp2_with fail
        go_region
        all_goals (
          go_wp2_with fail
          have h := (BRel.next (k := 10) (o := 70) (n := 11) (x := (num f ws)) rfl rfl rfl (by omega) HR.out.1 HR.out.2.1 HR.out.2.2.1 HR.out.2.2.2).drew
          unfold put7 num at h
          exact ⟨h, by simp [intOf]⟩)
    · obtain rfl : k = 11 := by omega
      have HR := Lib.hid (And.intro hb (And.intro hbx (And.intro hK hs)))
      clear hb hbx hK hs
      go_wp2_with fail
      go_ret
      have hsz := HR.out.2.2.2
      have ha : Below wr.heap.size wr (wr.alloc (Obj.cells #[.pointer (some ⟨w.heap.size + 1, 0, none⟩), .string nm, .int .i32 0, .int .u32 0, .int .u16 0, .int .u8 27, .int .u8 0] 37)) := (Below.refl _ _).alloc (Nat.le_refl _) _
      refine ⟨wr.heap.size, w.heap.size + 1, w.heap.size + 2, rfl, by omega, by omega, by omega, ⟨heap_alloc_new wr _, (ha.block _ (by omega)).trans HR.out.2.1, ⟨?_, fun j hj => (HR.out.2.2.1.2 j hj).out fun p _ _ => ha.cell (p := ⟨w.heap.size + 2, p, none⟩) (by show w.heap.size + 2 < _; omega)⟩, by omega⟩, HR.out.1.trans (ha.mono HR.out.1.size)⟩
      obtain ⟨cs, h1, h2⟩ := HR.out.2.2.1.1
      exact ⟨cs, (ha.block _ (by omega)).trans h1, h2⟩
end Go.Proofs.YtjanppdeddfehaaFmt
