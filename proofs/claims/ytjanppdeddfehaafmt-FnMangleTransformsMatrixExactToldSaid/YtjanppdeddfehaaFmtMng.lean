/-
  The walk of mangleTransforms over one matrix; conditions: those that each names.
-/
import Derived.Test.YtjanppdeddfehaaFmtTrm
import Derived.Test.YtjanppdeddfehaaFmtShelf
import Derived.Deep.QuietTactic
import Derived.BigQuiet
namespace Go.Proofs.YtjanppdeddfehaaFmt
open Go.RowKit

def matrixS : ByteArray := ⟨#[109, 97, 116, 114, 105, 120]⟩
theorem lower_of (nm : ByteArray) (w : World) (hs : nm.size ≤ 140737488355328) (h1 : (nm.data.toList.all fun b => decide (b.toNat < 128)) = true) (h2 : (⟨(Lib.toLowerA nm.data.toList).toArray⟩ : ByteArray) = matrixS) : Calls Tryf.prog 12 #[.string nm] w fun e w' => e = .returned (.string matrixS) ∧ Below w.heap.size w w' :=
  (Tryf.strings_ToLower_ascii nm w hs (fun j b hj => of_decide_eq_true (List.all_eq_true.1 h1 b (List.mem_of_getElem? hj)))).mono fun _ _ ⟨he, hb⟩ => ⟨by rw [he, h2], hb⟩
theorem lower_any (nm : ByteArray) (h : IsName nm) (w : World) : Calls Tryf.prog 12 #[.string nm] w fun e w' => e = .returned (.string matrixS) ∧ Below w.heap.size w w' := by
  rcases h with rfl | rfl | rfl
  · exact lower_of _ w (by decide) (by decide) (by decide +kernel)
  · exact lower_of _ w (by decide) (by decide) (by decide +kernel)
  · exact lower_of _ w (by decide) (by decide) (by decide +kernel)
theorem kid_alt (a b c d e f : ByteArray) (ws : Int) : Alt (kid a b c d e f ws) 11 := by
  intro j hj
  rcases (show j = 0 ∨ j = 1 ∨ j = 2 ∨ j = 3 ∨ j = 4 ∨ j = 5 ∨ j = 6 ∨ j = 7 ∨ j = 8 ∨ j = 9 ∨ j = 10 by omega) with rfl | rfl | rfl | rfl | rfl | rfl | rfl | rfl | rfl | rfl | rfl <;> rfl

theorem Kids.up {w w' : World} {g : Nat} {K : Nat → Tk} {k : Nat} (h : Kids w g K k) (hb : Below w.heap.size w w') : Kids w' g K k := by
  obtain ⟨⟨cs, h1, h2⟩, h3⟩ := h
  exact ⟨⟨cs, (hb.block g (Array.getElem?_eq_some_iff.1 h1).1).trans h1, h2⟩, fun j hj => (h3 j hj).up hb⟩
theorem Fn.up {w w' : World} {tb bx cb : Nat} {nm : ByteArray} {K : Nat → Tk} (h : Fn w tb bx cb nm K) (hb : Below w.heap.size w w') : Fn w' tb bx cb nm K :=
  ⟨(hb.block tb (Array.getElem?_eq_some_iff.1 h.htk).1).trans h.htk, (hb.block bx (Array.getElem?_eq_some_iff.1 h.hbx).1).trans h.hbx, h.hks.up hb, h.ne⟩
theorem kid_ws (a b c d e f : ByteArray) (ws : Int) (j : Nat) : (kid a b c d e f ws j).ws = ws := by
  unfold kid
  split <;> rfl
def scaleS : ByteArray := ⟨#[115, 99, 97, 108, 101]⟩
def scaleXS : ByteArray := ⟨#[115, 99, 97, 108, 101, 88]⟩
def scaleYS : ByteArray := ⟨#[115, 99, 97, 108, 101, 89]⟩
def isS (s : ByteArray) (x : UInt8) : Bool := s.toList == [x]
def diag (b c e f : ByteArray) : Bool := (b.toList == [48]) && ((c.toList == [48]) && ((e.toList == [48]) && (f.toList == [48])))
def three (a d : ByteArray) (ws : Int) (j : Nat) : Tk := match j with
  | 0 => num a ws
  | 2 => num d ws
  | _ => com ws
/-- Which of the five. -/
def MRes (w : World) (B tb : Nat) (nm a b c d e f : ByteArray) (ws : Int) (en : Ending) (w' : World) : Prop :=
  if diag b c e f = true then
    (if (a.toList == d.toList) = true then MEnd w B tb scaleS 1 ws (fun _ => num a ws) en w'
     else if (d.toList == [49]) = true then MEnd w B tb scaleXS 1 ws (fun _ => num a ws) en w'
     else if (a.toList == [49]) = true then MEnd w B tb scaleYS 1 ws (fun _ => num d ws) en w'
     else MEnd w B tb scaleS 3 ws (three a d ws) en w')
  else MEnd w B tb nm 11 ws (kid a b c d e f ws) en w'
/-- The end where nothing turns but the white space. -/
theorem end_six {w w3 : World} {B tb bx cb : Nat} {nm : ByteArray} {K : Nat → Tk} {ws : Int} (hf : Fn w3 tb bx cb nm K) (hb : Below w.heap.size w w3) (hB : B ≤ tb ∧ B ≤ bx ∧ B ≤ cb ∧ B ≤ w.heap.size) (hw : ∀ j, (K j).ws = ws) (h0 : 0 ≤ ws) (h1 : ws ≤ 255) :
    MEnd w B tb nm 11 ws K (.returned (.slice (some ⟨tb, 0, none⟩) 1 1)) ((w3.setCell ⟨cb, 6, none⟩ (.int .u8 (bits .and .u8 ws 254))).setCell ⟨cb, 76, none⟩ (.int .u8 (bits .and .u8 ws 253))) := by
  have ht := trim_many (n := 11) (o := 0) (l := 76) hf.hks.1 (fun j hj => by rw [Nat.zero_add]; exact hf.hks.2 j hj) (fun j _ => hw j) h0 h1 (by omega) rfl (by omega)
  rw [Nat.zero_add] at ht
  have hk : ∀ k, k ≠ cb → ((w3.setCell ⟨cb, 6, none⟩ (.int .u8 (bits .and .u8 ws 254))).setCell ⟨cb, 76, none⟩ (.int .u8 (bits .and .u8 ws 253))).heap[k]? = w3.heap[k]? := fun k hk => (Below.heap_setCell _ _ _ _ hk).trans (Below.heap_setCell _ _ _ _ hk)
  refine ⟨rfl, ⟨bx, cb, 0, 11, ?_, ?_, ?_, ?_, Nat.le_refl _, ht⟩, ((hb.mono hB.2.2.2).setCell (p := ⟨cb, 6, none⟩) hB.2.2.1 _).setCell (p := ⟨cb, 76, none⟩) hB.2.2.1 _⟩
  · exact (Lib.cell_of_heap ((hk tb hf.ne.1).trans hf.htk) 0).trans rfl
  · exact (Lib.cell_of_heap ((hk tb hf.ne.1).trans hf.htk) 1).trans rfl
  · exact (Lib.cell_of_heap ((hk tb hf.ne.1).trans hf.htk) 5).trans rfl
  · exact (Lib.cell_of_heap ((hk bx hf.ne.2.2).trans hf.hbx) 0).trans rfl
theorem end_one {w w7 : World} {B tb bx cb o l cap : Nat} {nm text : ByteArray} {K : Nat → Tk} {x : Tk} {ws : Int} (hf : Fn w7 tb bx cb nm K) (hb : Below w.heap.size w w7) (hB : B ≤ tb ∧ B ≤ bx ∧ B ≤ cb ∧ B ≤ w.heap.size) (hx : TkAt w7 cb o x) (h0 : 0 ≤ ws) (h1 : ws ≤ 255) (ho : o + 7 ≤ 77) (hl : l = o + 6) (hc : 1 ≤ cap) :
    MEnd w B tb text 1 ws (fun _ => x) (.returned (.slice (some ⟨tb, 0, none⟩) 1 1)) (((((w7.setCell ⟨tb, 1, none⟩ (.string text)).setCell ⟨bx, 0, none⟩ (.slice (some ⟨cb, o, none⟩) 1 cap)).setCell ⟨cb, l, none⟩ (.int .u8 (bits .and .u8 ws 254))).setCell ⟨cb, l, none⟩ (.int .u8 (bits .and .u8 (bits .and .u8 ws 254) 253))).drew) := by
  subst hl
  obtain ⟨n1, n2, n3⟩ := hf.ne
  obtain ⟨W, hW⟩ : ∃ W, (w7.setCell ⟨tb, 1, none⟩ (.string text)).setCell ⟨bx, 0, none⟩ (.slice (some ⟨cb, o, none⟩) 1 cap) = W := ⟨_, rfl⟩
  have hcb : W.heap[cb]? = w7.heap[cb]? := by
    rw [← hW]
    exact (Below.heap_setCell _ _ _ _ (fun e => n3 e.symm)).trans (Below.heap_setCell _ _ _ _ (fun e => n1 e.symm))
  have htb : W.heap[tb]? = some (.cells #[.pointer (some ⟨bx, 0, none⟩), .string text, .int .i32 0, .int .u32 0, .int .u16 0, .int .u8 27, .int .u8 0] 37 (0, 0)) := by
    rw [← hW]
    refine (Below.heap_setCell _ _ _ _ n2).trans ?_
    simp [World.setCell, Array.getElem?_modify, hf.htk]
  have hbx : W.heap[bx]? = some (.cells #[.slice (some ⟨cb, o, none⟩) 1 cap] 26 (0, 0)) := by
    rw [← hW]
    have h2 : (w7.setCell ⟨tb, 1, none⟩ (.string text)).heap[bx]? = some (.cells #[.slice (some ⟨cb, 0, none⟩) 11 11] 26 (0, 0)) := (Below.heap_setCell _ _ _ _ (fun e => n2 e.symm)).trans hf.hbx
    simp [World.setCell, Array.getElem?_modify] at h2 ⊢
    simp [h2]
  have hbW : Below B w W := by
    rw [← hW]
    exact ((hb.mono hB.2.2.2).setCell (p := ⟨tb, 1, none⟩) hB.1 _).setCell (p := ⟨bx, 0, none⟩) hB.2.1 _
  rw [hW]
  have ht := trim_one (K := fun _ => x) (hf.hks.1.blk hcb) (hx.blk hcb) h0 h1 ho
  have hk : ∀ k, k ≠ cb → ((W.setCell ⟨cb, o + 6, none⟩ (.int .u8 (bits .and .u8 ws 254))).setCell ⟨cb, o + 6, none⟩ (.int .u8 (bits .and .u8 (bits .and .u8 ws 254) 253))).heap[k]? = W.heap[k]? := fun k hk => (Below.heap_setCell _ _ _ _ hk).trans (Below.heap_setCell _ _ _ _ hk)
  refine ⟨rfl, ⟨bx, cb, o, cap, ?_, ?_, ?_, ?_, hc, fun j hj => (ht j hj).out fun _ _ _ => rfl⟩, ((hbW.setCell (p := ⟨cb, o + 6, none⟩) hB.2.2.1 _).setCell (p := ⟨cb, o + 6, none⟩) hB.2.2.1 _).drew⟩
  · exact (Lib.cell_of_heap ((hk tb n1).trans htb) 0).trans rfl
  · exact (Lib.cell_of_heap ((hk tb n1).trans htb) 1).trans rfl
  · exact (Lib.cell_of_heap ((hk tb n1).trans htb) 5).trans rfl
  · exact (Lib.cell_of_heap ((hk bx n3).trans hbx) 0).trans rfl
theorem end_three {w w9 : World} {B tb bx cb : Nat} {nm text a b c d e f : ByteArray} {ws : Int} (hf : Fn w9 tb bx cb nm (kid a b c d e f ws)) (hb : Below w.heap.size w w9) (hB : B ≤ tb ∧ B ≤ bx ∧ B ≤ cb ∧ B ≤ w.heap.size) (h0 : 0 ≤ ws) (h1 : ws ≤ 255) (obj : Obj) :
    MEnd w B tb text 3 ws (three a d ws) (.returned (.slice (some ⟨tb, 0, none⟩) 1 1)) ((((((put7 (w9.setCell ⟨tb, 1, none⟩ (.string text)) cb 14 (num d ws)).setCell ⟨bx, 0, none⟩ (.slice (some ⟨cb, 0, none⟩) 3 11)).setCell ⟨cb, 6, none⟩ (.int .u8 (bits .and .u8 ws 254))).setCell ⟨cb, 20, none⟩ (.int .u8 (bits .and .u8 ws 253))).alloc obj).drew) := by
  obtain ⟨n1, n2, n3⟩ := hf.ne
  obtain ⟨V, hV⟩ : ∃ V, w9.setCell ⟨tb, 1, none⟩ (.string text) = V := ⟨_, rfl⟩
  have hVk : ∀ k, k ≠ tb → V.heap[k]? = w9.heap[k]? := fun k hk => by rw [← hV]; exact Below.heap_setCell _ _ _ _ hk
  have hVt : V.heap[tb]? = some (.cells #[.pointer (some ⟨bx, 0, none⟩), .string text, .int .i32 0, .int .u32 0, .int .u16 0, .int .u8 27, .int .u8 0] 37 (0, 0)) := by
    rw [← hV]
    simp [World.setCell, Array.getElem?_modify, hf.htk]
  have hVb : Below B w V := by
    rw [← hV]
    exact (hb.mono hB.2.2.2).setCell (p := ⟨tb, 1, none⟩) hB.1 _
  rw [hV]
  have hVB := hf.hks.1.blk (hVk cb (fun e => n1 e.symm))
  have hV0 := (hf.hks.2 0 (by omega)).blk (hVk cb (fun e => n1 e.symm))
  have hV1 := (hf.hks.2 1 (by omega)).blk (hVk cb (fun e => n1 e.symm))
  have hVx := (hVk bx (fun e => n2 e.symm)).trans hf.hbx
  clear hV hVk
  obtain ⟨X, hX⟩ : ∃ X, put7 V cb 14 (num d ws) = X := ⟨_, rfl⟩
  have hXB : Blk X cb 77 := by rw [← hX]; exact put7_blk hVB _ _
  have hX0 : TkAt X cb 0 (num a ws) := by rw [← hX]; exact hV0.out fun p _ _ => put7_out hVB _ (by omega)
  have hX1 : TkAt X cb 7 (com ws) := by rw [← hX]; exact hV1.out fun p _ _ => put7_out hVB _ (by omega)
  have hX2 : TkAt X cb 14 (num d ws) := by rw [← hX]; exact put7_at hVB _ (by omega)
  have hXt : X.heap[tb]? = some (.cells #[.pointer (some ⟨bx, 0, none⟩), .string text, .int .i32 0, .int .u32 0, .int .u16 0, .int .u8 27, .int .u8 0] 37 (0, 0)) := by rw [← hX]; exact (put7_heap _ _ _ _ n1).trans hVt
  have hXx : X.heap[bx]? = some (.cells #[.slice (some ⟨cb, 0, none⟩) 11 11] 26 (0, 0)) := by rw [← hX]; exact (put7_heap _ _ _ _ n3).trans hVx
  have hXb : Below B w X := by rw [← hX]; exact put7_below hVb hB.2.2.1 _ _
  rw [hX]
  clear hX hVB hV0 hV1 hVx hVt hVb
  obtain ⟨Y, hY⟩ : ∃ Y, X.setCell ⟨bx, 0, none⟩ (.slice (some ⟨cb, 0, none⟩) 3 11) = Y := ⟨_, rfl⟩
  have hYk : ∀ k, k ≠ bx → Y.heap[k]? = X.heap[k]? := fun k hk => by rw [← hY]; exact Below.heap_setCell _ _ _ _ hk
  have hYx : Y.heap[bx]? = some (.cells #[.slice (some ⟨cb, 0, none⟩) 3 11] 26 (0, 0)) := by
    rw [← hY]
    simp [World.setCell, Array.getElem?_modify, hXx]
  have hYb : Below B w Y := by rw [← hY]; exact hXb.setCell (p := ⟨bx, 0, none⟩) hB.2.1 _
  rw [hY]
  have hYB := hXB.blk (hYk cb (fun e => n3 e.symm))
  have ha : Arg Y cb 0 (three a d ws) 3 := fun j hj => by
    rw [Nat.zero_add]
    rcases (show j = 0 ∨ j = 1 ∨ j = 2 by omega) with rfl | rfl | rfl
    · exact hX0.blk (hYk cb (fun e => n3 e.symm))
    · exact hX1.blk (hYk cb (fun e => n3 e.symm))
    · exact hX2.blk (hYk cb (fun e => n3 e.symm))
  have hYt := (hYk tb n2).trans hXt
  clear hY hYk
  have ht := trim_many (n := 3) (o := 0) (l := 20) hYB ha (fun j hj => by rcases (show j = 0 ∨ j = 1 ∨ j = 2 by omega) with rfl | rfl | rfl <;> rfl) h0 h1 (by omega) rfl (by omega)
  rw [Nat.zero_add] at ht
  obtain ⟨Z, hZ⟩ : ∃ Z, (Y.setCell ⟨cb, 6, none⟩ (.int .u8 (bits .and .u8 ws 254))).setCell ⟨cb, 20, none⟩ (.int .u8 (bits .and .u8 ws 253)) = Z := ⟨_, rfl⟩
  have hZk : ∀ k, k ≠ cb → Z.heap[k]? = Y.heap[k]? := fun k hk => by rw [← hZ]; exact (Below.heap_setCell _ _ _ _ hk).trans (Below.heap_setCell _ _ _ _ hk)
  have hZb : Below B w Z := by rw [← hZ]; exact (hYb.setCell (p := ⟨cb, 6, none⟩) hB.2.2.1 _).setCell (p := ⟨cb, 20, none⟩) hB.2.2.1 _
  rw [hZ] at ht ⊢
  have hz : Below Z.heap.size Z (Z.alloc obj).drew := ((Below.refl _ _).alloc (Nat.le_refl _) _).drew
  have hzt := (hZk tb n1).trans hYt
  have hzx := (hZk bx n3).trans hYx
  refine ⟨rfl, ⟨bx, cb, 0, 11, ?_, ?_, ?_, ?_, by omega, fun j hj => (ht j hj).up hz⟩, hZb.trans (hz.mono (Nat.le_trans hB.2.2.2 hZb.size))⟩
  · exact (hz.cell (p := ⟨tb, 0, none⟩) (Array.getElem?_eq_some_iff.1 hzt).1).trans ((Lib.cell_of_heap hzt 0).trans rfl)
  · exact (hz.cell (p := ⟨tb, 1, none⟩) (Array.getElem?_eq_some_iff.1 hzt).1).trans ((Lib.cell_of_heap hzt 1).trans rfl)
  · exact (hz.cell (p := ⟨tb, 5, none⟩) (Array.getElem?_eq_some_iff.1 hzt).1).trans ((Lib.cell_of_heap hzt 5).trans rfl)
  · exact (hz.cell (p := ⟨bx, 0, none⟩) (Array.getElem?_eq_some_iff.1 hzx).1).trans ((Lib.cell_of_heap hzx 0).trans rfl)
/-- The six variables, one by one, with what else lies there. -/
structure Vars (w : World) (q0 q1 q2 q3 q4 q5 : Nat) (a b c d e f : ByteArray) (ws : Int) : Prop where
  a : TkAt w q0 0 (num a ws)
  b : TkAt w q1 0 (num b ws)
  c : TkAt w q2 0 (num c ws)
  d : TkAt w q3 0 (num d ws)
  e : TkAt w q4 0 (num e ws)
  f : TkAt w q5 0 (num f ws)
theorem Vars.up {w w' : World} {q0 q1 q2 q3 q4 q5 : Nat} {a b c d e f : ByteArray} {ws : Int} (h : Vars w q0 q1 q2 q3 q4 q5 a b c d e f ws) (hb : Below w.heap.size w w') : Vars w' q0 q1 q2 q3 q4 q5 a b c d e f ws :=
  ⟨h.a.up hb, h.b.up hb, h.c.up hb, h.d.up hb, h.e.up hb, h.f.up hb⟩
theorem Got.vars {w0 w : World} {p : Nat → Nat} {a b c d e f : ByteArray} {ws : Int} (h : Got (kid a b c d e f ws) w0 p w) : Vars w (p 0) (p 1) (p 2) (p 3) (p 4) (p 5) a b c d e f ws :=
  ⟨(h.at_ 0 (by omega)).2.2, (h.at_ 1 (by omega)).2.2, (h.at_ 2 (by omega)).2.2, (h.at_ 3 (by omega)).2.2, (h.at_ 4 (by omega)).2.2, (h.at_ 5 (by omega)).2.2⟩
/-- A token's cells at the head of a block. -/
theorem TkAt.seven {w : World} {g : Nat} {s : ByteArray} {ws : Int} (h : TkAt w g 0 (num s ws)) : w.cell? ⟨g, 0, none⟩ = some (.pointer none) ∧ w.cell? ⟨g, 1, none⟩ = some (.string s) ∧ w.cell? ⟨g, 2, none⟩ = some (.int .i32 0) ∧ w.cell? ⟨g, 3, none⟩ = some (.int .u32 0) ∧ w.cell? ⟨g, 4, none⟩ = some (.int .u16 0) ∧ w.cell? ⟨g, 5, none⟩ = some (.int .u8 30) ∧ w.cell? ⟨g, 6, none⟩ = some (.int .u8 ws) :=
  ⟨h.c0, h.c1, h.c2, h.c3, h.c4, h.c5, h.c6⟩
set_option maxHeartbeats 40000000 in
set_option maxRecDepth 100000 in
theorem mangle_any (nm a b c d e f : ByteArray) (ws : Int) (pb : Addr) (tb bx cb : Nat) (w : World) (hn : IsName nm) (h : Fn w tb bx cb nm (kid a b c d e f ws)) (hw0 : 0 ≤ ws) (hw1 : ws ≤ 255) (B : Nat) (hB : B ≤ tb ∧ B ≤ bx ∧ B ≤ cb ∧ B ≤ w.heap.size) :
    Calls Tryf.prog 10 #[.pointer (some pb), .slice (some ⟨tb, 0, none⟩) 1 1] w (MRes w B tb nm a b c d e f ws) := by
  have t0 : w.cell? ⟨tb, 0, none⟩ = some (.pointer (some ⟨bx, 0, none⟩)) := (Lib.cell_of_heap h.htk 0).trans rfl
  have t1 : w.cell? ⟨tb, 1, none⟩ = some (.string nm) := (Lib.cell_of_heap h.htk 1).trans rfl
  have t5 : w.cell? ⟨tb, 5, none⟩ = some (.int .u8 27) := (Lib.cell_of_heap h.htk 5).trans rfl
  have b0 : w.cell? ⟨bx, 0, none⟩ = some (.slice (some ⟨cb, 0, none⟩) 11 11) := (Lib.cell_of_heap h.hbx 0).trans rfl
  have harg : Arg w cb 0 (kid a b c d e f ws) 11 := fun j hj => by rw [Nat.zero_add]; exact h.hks.2 j hj
  have H := Lib.hid (And.intro h (And.intro hn harg))
  have HB := Lib.hid hB
  have HW := Lib.hid (And.intro hw0 hw1)
  clear h hn harg hB hw0 hw1
  go_enter Tryf.func10, Tryf.ntmps10
  go_wp2_with fail
  refine wp_loop_rounds 2 ?_
  rw [rounds_succ]
  go_wp2_with fail
  refine (comma_any cb 0 11 (kid a b c d e f ws) _ H.out.2.2 (kid_alt a b c d e f ws)).mono ?_
  rintro en w1 ⟨rfl, rfl⟩
  go_wp2_with fail
  refine (lower_any nm H.out.2.1 _).mono ?_
  rintro en w1 ⟨rfl, hb1⟩
  have u0 := (hb1.cell (World.block_lt_of_cell? w _ t0)).trans t0
  have u1 := (hb1.cell (World.block_lt_of_cell? w _ t1)).trans t1
  have u5 := (hb1.cell (World.block_lt_of_cell? w _ t5)).trans t5
  have ub := (hb1.cell (World.block_lt_of_cell? w _ b0)).trans b0
  have HB1 := Lib.hid hb1
  clear hb1 t0 t1 t5 b0
  unfold matrixS
  go_wp2_with fail
  refine wp_region_any (by kernel_rfl) ?_
  refine six_region' (cb := cb) (K := kid a b c d e f ws) (by kernel_rfl) (by kernel_rfl) (by kernel_rfl) (of_decide_eq_true (by kernel_rfl)) (by rfl) (fun j hj => ((H.out.2.2 j hj).up HB1.out).out fun _ _ _ => rfl) ?_
  intro p w2 hgot
  have hv2 := hgot.vars
  have hb2 : Below w.heap.size w w2 := HB1.out.drew.trans ((show Below w1.heap.size w1.drew w2 from hgot.bl).mono HB1.out.size)
  obtain ⟨q0, hq0⟩ : ∃ q, p 0 = q := ⟨_, rfl⟩
  obtain ⟨q1, hq1⟩ : ∃ q, p 1 = q := ⟨_, rfl⟩
  obtain ⟨q2, hq2⟩ : ∃ q, p 2 = q := ⟨_, rfl⟩
  obtain ⟨q3, hq3⟩ : ∃ q, p 3 = q := ⟨_, rfl⟩
  obtain ⟨q4, hq4⟩ : ∃ q, p 4 = q := ⟨_, rfl⟩
  obtain ⟨q5, hq5⟩ : ∃ q, p 5 = q := ⟨_, rfl⟩
  have hF : finL cb (kid a b c d e f ws) p = [(69, .slice (some ⟨cb, 0, none⟩) 11 11), (70, .pointer (some ⟨cb, 0, none⟩)), (71, tkV (num a ws)), (72, .slice (some ⟨cb, 0, none⟩) 11 11), (73, .pointer (some ⟨cb, 14, none⟩)), (74, tkV (num b ws)), (75, .slice (some ⟨cb, 0, none⟩) 11 11), (76, .pointer (some ⟨cb, 28, none⟩)), (77, tkV (num c ws)), (78, .slice (some ⟨cb, 0, none⟩) 11 11), (79, .pointer (some ⟨cb, 42, none⟩)), (80, tkV (num d ws)), (81, .slice (some ⟨cb, 0, none⟩) 11 11), (82, .pointer (some ⟨cb, 56, none⟩)), (83, tkV (num e ws)), (84, .slice (some ⟨cb, 0, none⟩) 11 11), (85, .pointer (some ⟨cb, 70, none⟩)), (86, tkV (num f ws)),
      (9, .pointer (some ⟨p 0, 0, none⟩)), (10, .pointer (some ⟨p 1, 0, none⟩)), (11, .pointer (some ⟨p 2, 0, none⟩)), (12, .pointer (some ⟨p 3, 0, none⟩)), (13, .pointer (some ⟨p 4, 0, none⟩)), (14, .pointer (some ⟨p 5, 0, none⟩))] := rfl
  unfold fin
  rw [hF, hq0, hq1, hq2, hq3, hq4, hq5]
  rw [hq0, hq1, hq2, hq3, hq4, hq5] at hv2
  have hlo : w.heap.size ≤ q3 := by rw [← hq3]; exact Nat.le_trans HB1.out.size (hgot.at_ 3 (by omega)).1
  clear hF hgot u0 u1 u5 ub hq0 hq1 hq2 hq3 hq4 hq5
  simp only [putAll, List.setIfInBounds_toArray, List.set_cons_succ, List.set_cons_zero]
  have HV := Lib.hid (And.intro hv2 hb2)
  obtain ⟨m0, m1, m2, m3, m4, m5, m6⟩ := hv2.b.seven
  clear hv2 hb2
  obtain ⟨zb, hzb⟩ : ∃ z, (b.toList == [48]) = z := ⟨_, rfl⟩
  obtain ⟨zc, hzc⟩ : ∃ z, (c.toList == [48]) = z := ⟨_, rfl⟩
  obtain ⟨ze, hze⟩ : ∃ z, (e.toList == [48]) = z := ⟨_, rfl⟩
  obtain ⟨zf, hzf⟩ : ∃ z, (f.toList == [48]) = z := ⟨_, rfl⟩
  have HZB := Lib.hid (fun (wx : World) => zero_any b ws zb hzb wx)
  have HZC := Lib.hid (fun (wx : World) => zero_any c ws zc hzc wx)
  have HZE := Lib.hid (fun (wx : World) => zero_any e ws ze hze wx)
  have HZF := Lib.hid (fun (wx : World) => zero_any f ws zf hzf wx)
  have hdg : diag b c e f = (zb && (zc && (ze && zf))) := by unfold diag; rw [hzb, hzc, hze, hzf]
  have HD : Hid ((zb && (zc && (ze && zf))) = false → MRes w B tb nm a b c d e f ws = MEnd w B tb nm 11 ws (kid a b c d e f ws)) := fun hz => by
    funext en w'
    unfold MRes
    rw [hdg, hz]
    rfl
  have HDG := Lib.hid hdg
  clear hdg
  clear hzb hzc hze hzf
  unfold tkV num at HZB HZC HZE HZF
  go_wp2_with fail
  refine (HZB.out w2).mono ?_
  rintro en w3 ⟨rfl, hb3⟩
  have HV3 := Lib.hid (And.intro (HV.out.1.up hb3) (HV.out.2.trans (hb3.mono HV.out.2.size)))
  clear hb3 m0 m1 m2 m3 m4 m5 m6
  cases zb
  · have hf := H.out.1.up HV3.out.2
    have y0 : w3.cell? ⟨tb, 0, none⟩ = some (.pointer (some ⟨bx, 0, none⟩)) := (Lib.cell_of_heap hf.htk 0).trans rfl
    have yb : w3.cell? ⟨bx, 0, none⟩ = some (.slice (some ⟨cb, 0, none⟩) 11 11) := (Lib.cell_of_heap hf.hbx 0).trans rfl
    have y6 : w3.cell? ⟨cb, 6, none⟩ = some (.int .u8 ws) := (hf.hks.2 0 (by omega)).c6
    have y76 : w3.cell? ⟨cb, 76, none⟩ = some (.int .u8 ws) := (hf.hks.2 10 (by omega)).c6
    have f6 := hf.hks.1.frozen 6
    have f76 := hf.hks.1.frozen 76
    have HF3 := Lib.hid hf
    clear hf
    go_wp2_with fail
    rw [rounds_succ]
    go_wp2_with fail
    go_ret
    rw [HD.out (by simp)]
    exact end_six HF3.out HV3.out.2 HB.out (kid_ws a b c d e f ws) HW.out.1 HW.out.2
  · skip
    obtain ⟨m0, m1, m2, m3, m4, m5, m6⟩ := HV3.out.1.c.seven
    go_wp2_with fail
    refine (HZC.out w3).mono ?_
    rintro en w4 ⟨rfl, hb4⟩
    have HV4 := Lib.hid (And.intro (HV3.out.1.up hb4) (HV3.out.2.trans (hb4.mono HV3.out.2.size)))
    clear hb4 m0 m1 m2 m3 m4 m5 m6
    cases zc
    · have hf := H.out.1.up HV4.out.2
      have y0 : w4.cell? ⟨tb, 0, none⟩ = some (.pointer (some ⟨bx, 0, none⟩)) := (Lib.cell_of_heap hf.htk 0).trans rfl
      have yb : w4.cell? ⟨bx, 0, none⟩ = some (.slice (some ⟨cb, 0, none⟩) 11 11) := (Lib.cell_of_heap hf.hbx 0).trans rfl
      have y6 : w4.cell? ⟨cb, 6, none⟩ = some (.int .u8 ws) := (hf.hks.2 0 (by omega)).c6
      have y76 : w4.cell? ⟨cb, 76, none⟩ = some (.int .u8 ws) := (hf.hks.2 10 (by omega)).c6
      have f6 := hf.hks.1.frozen 6
      have f76 := hf.hks.1.frozen 76
      have HF3 := Lib.hid hf
      clear hf
      go_wp2_with fail
      rw [rounds_succ]
      go_wp2_with fail
      go_ret
      rw [HD.out (by simp)]
      exact end_six HF3.out HV4.out.2 HB.out (kid_ws a b c d e f ws) HW.out.1 HW.out.2
    · skip
      obtain ⟨m0, m1, m2, m3, m4, m5, m6⟩ := HV4.out.1.e.seven
      go_wp2_with fail
      refine (HZE.out w4).mono ?_
      rintro en w5 ⟨rfl, hb5⟩
      have HV5 := Lib.hid (And.intro (HV4.out.1.up hb5) (HV4.out.2.trans (hb5.mono HV4.out.2.size)))
      clear hb5 m0 m1 m2 m3 m4 m5 m6
      cases ze
      · have hf := H.out.1.up HV5.out.2
        have y0 : w5.cell? ⟨tb, 0, none⟩ = some (.pointer (some ⟨bx, 0, none⟩)) := (Lib.cell_of_heap hf.htk 0).trans rfl
        have yb : w5.cell? ⟨bx, 0, none⟩ = some (.slice (some ⟨cb, 0, none⟩) 11 11) := (Lib.cell_of_heap hf.hbx 0).trans rfl
        have y6 : w5.cell? ⟨cb, 6, none⟩ = some (.int .u8 ws) := (hf.hks.2 0 (by omega)).c6
        have y76 : w5.cell? ⟨cb, 76, none⟩ = some (.int .u8 ws) := (hf.hks.2 10 (by omega)).c6
        have f6 := hf.hks.1.frozen 6
        have f76 := hf.hks.1.frozen 76
        have HF3 := Lib.hid hf
        clear hf
        go_wp2_with fail
        rw [rounds_succ]
        go_wp2_with fail
        go_ret
        rw [HD.out (by simp)]
        exact end_six HF3.out HV5.out.2 HB.out (kid_ws a b c d e f ws) HW.out.1 HW.out.2
      · skip
        obtain ⟨m0, m1, m2, m3, m4, m5, m6⟩ := HV5.out.1.f.seven
        go_wp2_with fail
        refine (HZF.out w5).mono ?_
        rintro en w6 ⟨rfl, hb6⟩
        have HV6 := Lib.hid (And.intro (HV5.out.1.up hb6) (HV5.out.2.trans (hb6.mono HV5.out.2.size)))
        clear hb6 m0 m1 m2 m3 m4 m5 m6
        cases zf
        · have hf := H.out.1.up HV6.out.2
          have y0 : w6.cell? ⟨tb, 0, none⟩ = some (.pointer (some ⟨bx, 0, none⟩)) := (Lib.cell_of_heap hf.htk 0).trans rfl
          have yb : w6.cell? ⟨bx, 0, none⟩ = some (.slice (some ⟨cb, 0, none⟩) 11 11) := (Lib.cell_of_heap hf.hbx 0).trans rfl
          have y6 : w6.cell? ⟨cb, 6, none⟩ = some (.int .u8 ws) := (hf.hks.2 0 (by omega)).c6
          have y76 : w6.cell? ⟨cb, 76, none⟩ = some (.int .u8 ws) := (hf.hks.2 10 (by omega)).c6
          have f6 := hf.hks.1.frozen 6
          have f76 := hf.hks.1.frozen 76
          have HF3 := Lib.hid hf
          clear hf
          go_wp2_with fail
          rw [rounds_succ]
          go_wp2_with fail
          go_ret
          rw [HD.out (by simp)]
          exact end_six HF3.out HV6.out.2 HB.out (kid_ws a b c d e f ws) HW.out.1 HW.out.2
        · skip
          obtain ⟨zq, hzq⟩ : ∃ z, (a.toList == d.toList) = z := ⟨_, rfl⟩
          obtain ⟨zd, hzd⟩ : ∃ z, (d.toList == [49]) = z := ⟨_, rfl⟩
          obtain ⟨za, hza⟩ : ∃ z, (a.toList == [49]) = z := ⟨_, rfl⟩
          have HQ := Lib.hid (fun (wx : World) => eq_any a d ws ws zq hzq wx)
          have HOD := Lib.hid (fun (wx : World) => one_any d ws zd hzd wx)
          have HOA := Lib.hid (fun (wx : World) => one_any a ws za hza wx)
          have HZQ := Lib.hid (And.intro hzq (And.intro hzd hza))
          clear hzq hzd hza
          unfold tkV num at HQ HOD HOA
          obtain ⟨n0, n1, n2, n3, n4, n5, n6⟩ := HV6.out.1.d.seven
          obtain ⟨m0, m1, m2, m3, m4, m5, m6⟩ := HV6.out.1.a.seven
          go_wp2_with fail
          refine (HQ.out w6).mono ?_
          rintro en w7 ⟨rfl, hb⟩
          have HV7 := Lib.hid (And.intro (HV6.out.1.up hb) (HV6.out.2.trans (hb.mono HV6.out.2.size)))
          clear hb n0 n1 n2 n3 n4 n5 n6 m0 m1 m2 m3 m4 m5 m6
          cases zq
          · obtain ⟨m0, m1, m2, m3, m4, m5, m6⟩ := HV7.out.1.d.seven
            go_wp2_with fail
            refine (HOD.out w7).mono ?_
            rintro en w8 ⟨rfl, hb⟩
            have HV8 := Lib.hid (And.intro (HV7.out.1.up hb) (HV7.out.2.trans (hb.mono HV7.out.2.size)))
            clear hb m0 m1 m2 m3 m4 m5 m6
            cases zd
            · obtain ⟨m0, m1, m2, m3, m4, m5, m6⟩ := HV8.out.1.a.seven
              go_wp2_with fail
              refine (HOA.out w8).mono ?_
              rintro en w9 ⟨rfl, hb⟩
              have HV9 := Lib.hid (And.intro (HV8.out.1.up hb) (HV8.out.2.trans (hb.mono HV8.out.2.size)))
              clear hb m0 m1 m2 m3 m4 m5 m6
              cases za
              · have hf := H.out.1.up HV9.out.2
                obtain ⟨k1, k2, k3⟩ := hf.ne
                have y0 : w9.cell? ⟨tb, 0, none⟩ = some (.pointer (some ⟨bx, 0, none⟩)) := (Lib.cell_of_heap hf.htk 0).trans rfl
                have y1 : w9.cell? ⟨tb, 1, none⟩ = some (.string nm) := (Lib.cell_of_heap hf.htk 1).trans rfl
                have g1 : w9.frozen? ⟨tb, 1, none⟩ = false := Lib.frozen_of_heap hf.htk 1
                have yb : w9.cell? ⟨bx, 0, none⟩ = some (.slice (some ⟨cb, 0, none⟩) 11 11) := (Lib.cell_of_heap hf.hbx 0).trans rfl
                have gb : w9.frozen? ⟨bx, 0, none⟩ = false := Lib.frozen_of_heap hf.hbx 0
                have y_14 : w9.cell? ⟨cb, 14, none⟩ = some (.pointer none) := (hf.hks.2 2 (by omega)).c0
                have f_14 := hf.hks.1.frozen 14
                have y_15 : w9.cell? ⟨cb, 15, none⟩ = some (.string b) := (hf.hks.2 2 (by omega)).c1
                have f_15 := hf.hks.1.frozen 15
                have y_16 : w9.cell? ⟨cb, 16, none⟩ = some (.int .i32 0) := (hf.hks.2 2 (by omega)).c2
                have f_16 := hf.hks.1.frozen 16
                have y_17 : w9.cell? ⟨cb, 17, none⟩ = some (.int .u32 0) := (hf.hks.2 2 (by omega)).c3
                have f_17 := hf.hks.1.frozen 17
                have y_18 : w9.cell? ⟨cb, 18, none⟩ = some (.int .u16 0) := (hf.hks.2 2 (by omega)).c4
                have f_18 := hf.hks.1.frozen 18
                have y_19 : w9.cell? ⟨cb, 19, none⟩ = some (.int .u8 30) := (hf.hks.2 2 (by omega)).c5
                have f_19 := hf.hks.1.frozen 19
                have y_20 : w9.cell? ⟨cb, 20, none⟩ = some (.int .u8 ws) := (hf.hks.2 2 (by omega)).c6
                have f_20 := hf.hks.1.frozen 20
                have y_6 : w9.cell? ⟨cb, 6, none⟩ = some (.int .u8 ws) := (hf.hks.2 0 (by omega)).c6
                have f_6 := hf.hks.1.frozen 6
                have HF3 := Lib.hid hf
                have k4 : cb ≠ tb := fun e => k1 e.symm
                have k5 : bx ≠ tb := fun e => k2 e.symm
                have k6 : cb ≠ bx := fun e => k3 e.symm
                have kt : tb < w9.heap.size := (Array.getElem?_eq_some_iff.1 hf.htk).1
                have kx : bx < w9.heap.size := (Array.getElem?_eq_some_iff.1 hf.hbx).1
                have kc : cb < w9.heap.size := World.block_lt_of_cell? w9 _ y_6
                obtain ⟨n0, n1, n2, n3, n4, n5, n6⟩ := HV9.out.1.d.seven
                have hl1 := (Array.getElem?_eq_some_iff.1 H.out.1.htk).1
                have hl2 := (Array.getElem?_eq_some_iff.1 H.out.1.hbx).1
                have hl3 : cb < w.heap.size := World.block_lt_of_cell? w _ (H.out.1.hks.2 0 (by omega)).c6
                have e1 : q3 ≠ tb := by omega
                have e2 : q3 ≠ bx := by omega
                have e3 : q3 ≠ cb := by omega
                have e4 : tb ≠ q3 := by omega
                have e5 : bx ≠ q3 := by omega
                have e6 : cb ≠ q3 := by omega
                clear hl1 hl2 hl3
                have kq : q3 < w9.heap.size := World.block_lt_of_cell? w9 _ n6
                clear hf
                go_wp2_with fail
                go_region
                all_goals (
                  go_wp2_with fail
                  rw [rounds_succ]
                  go_wp2_with fail
                  go_ret
                  unfold MRes
                  rw [if_pos (show diag b c e f = true from HDG.out), if_neg (by rw [HZQ.out.1]; decide), if_neg (by rw [HZQ.out.2.1]; decide), if_neg (by rw [HZQ.out.2.2]; decide)]
                  have h := fun obj => end_three (text := scaleS) HF3.out HV9.out.2 HB.out HW.out.1 HW.out.2 obj
                  simp only [put7, num, Nat.reduceAdd] at h
                  exact h _)
              · have hf := H.out.1.up HV9.out.2
                obtain ⟨k1, k2, k3⟩ := hf.ne
                have y0 : w9.cell? ⟨tb, 0, none⟩ = some (.pointer (some ⟨bx, 0, none⟩)) := (Lib.cell_of_heap hf.htk 0).trans rfl
                have y1 : w9.cell? ⟨tb, 1, none⟩ = some (.string nm) := (Lib.cell_of_heap hf.htk 1).trans rfl
                have g1 : w9.frozen? ⟨tb, 1, none⟩ = false := Lib.frozen_of_heap hf.htk 1
                have yb : w9.cell? ⟨bx, 0, none⟩ = some (.slice (some ⟨cb, 0, none⟩) 11 11) := (Lib.cell_of_heap hf.hbx 0).trans rfl
                have gb : w9.frozen? ⟨bx, 0, none⟩ = false := Lib.frozen_of_heap hf.hbx 0
                have y_48 : w9.cell? ⟨cb, 48, none⟩ = some (.int .u8 ws) := (hf.hks.2 6 (by omega)).c6
                have f_48 := hf.hks.1.frozen 48
                have HF3 := Lib.hid hf
                have k4 : cb ≠ tb := fun e => k1 e.symm
                have k5 : bx ≠ tb := fun e => k2 e.symm
                have k6 : cb ≠ bx := fun e => k3 e.symm
                clear hf
                go_wp2_with fail
                go_region
                all_goals (
                  go_wp2_with fail
                  rw [rounds_succ]
                  go_wp2_with fail
                  go_ret
                  unfold MRes
                  rw [if_pos (show diag b c e f = true from HDG.out), if_neg (by rw [HZQ.out.1]; decide), if_neg (by rw [HZQ.out.2.1]; decide), if_pos HZQ.out.2.2]
                  exact end_one HF3.out HV9.out.2 HB.out (HF3.out.hks.2 6 (by omega)) HW.out.1 HW.out.2 (by omega) rfl (by omega))
            · have hf := H.out.1.up HV8.out.2
              obtain ⟨k1, k2, k3⟩ := hf.ne
              have y0 : w8.cell? ⟨tb, 0, none⟩ = some (.pointer (some ⟨bx, 0, none⟩)) := (Lib.cell_of_heap hf.htk 0).trans rfl
              have y1 : w8.cell? ⟨tb, 1, none⟩ = some (.string nm) := (Lib.cell_of_heap hf.htk 1).trans rfl
              have g1 : w8.frozen? ⟨tb, 1, none⟩ = false := Lib.frozen_of_heap hf.htk 1
              have yb : w8.cell? ⟨bx, 0, none⟩ = some (.slice (some ⟨cb, 0, none⟩) 11 11) := (Lib.cell_of_heap hf.hbx 0).trans rfl
              have gb : w8.frozen? ⟨bx, 0, none⟩ = false := Lib.frozen_of_heap hf.hbx 0
              have y_6 : w8.cell? ⟨cb, 6, none⟩ = some (.int .u8 ws) := (hf.hks.2 0 (by omega)).c6
              have f_6 := hf.hks.1.frozen 6
              have HF3 := Lib.hid hf
              have k4 : cb ≠ tb := fun e => k1 e.symm
              have k5 : bx ≠ tb := fun e => k2 e.symm
              have k6 : cb ≠ bx := fun e => k3 e.symm
              clear hf
              go_wp2_with fail
              go_region
              all_goals (
                go_wp2_with fail
                rw [rounds_succ]
                go_wp2_with fail
                go_ret
                unfold MRes
                rw [if_pos (show diag b c e f = true from HDG.out), if_neg (by rw [HZQ.out.1]; decide), if_pos HZQ.out.2.1]
                exact end_one HF3.out HV8.out.2 HB.out (HF3.out.hks.2 0 (by omega)) HW.out.1 HW.out.2 (by omega) rfl (by omega))
          · have hf := H.out.1.up HV7.out.2
            obtain ⟨k1, k2, k3⟩ := hf.ne
            have y0 : w7.cell? ⟨tb, 0, none⟩ = some (.pointer (some ⟨bx, 0, none⟩)) := (Lib.cell_of_heap hf.htk 0).trans rfl
            have y1 : w7.cell? ⟨tb, 1, none⟩ = some (.string nm) := (Lib.cell_of_heap hf.htk 1).trans rfl
            have g1 : w7.frozen? ⟨tb, 1, none⟩ = false := Lib.frozen_of_heap hf.htk 1
            have yb : w7.cell? ⟨bx, 0, none⟩ = some (.slice (some ⟨cb, 0, none⟩) 11 11) := (Lib.cell_of_heap hf.hbx 0).trans rfl
            have gb : w7.frozen? ⟨bx, 0, none⟩ = false := Lib.frozen_of_heap hf.hbx 0
            have y_6 : w7.cell? ⟨cb, 6, none⟩ = some (.int .u8 ws) := (hf.hks.2 0 (by omega)).c6
            have f_6 := hf.hks.1.frozen 6
            have HF3 := Lib.hid hf
            have k4 : cb ≠ tb := fun e => k1 e.symm
            have k5 : bx ≠ tb := fun e => k2 e.symm
            have k6 : cb ≠ bx := fun e => k3 e.symm
            clear hf
            go_wp2_with fail
            go_region
            all_goals (
              go_wp2_with fail
              rw [rounds_succ]
              go_wp2_with fail
              go_ret
              unfold MRes
              rw [if_pos (show diag b c e f = true from HDG.out), if_pos HZQ.out.1]
              exact end_one HF3.out HV7.out.2 HB.out (HF3.out.hks.2 0 (by omega)) HW.out.1 HW.out.2 (by omega) rfl (by omega))
end Go.Proofs.YtjanppdeddfehaaFmt
