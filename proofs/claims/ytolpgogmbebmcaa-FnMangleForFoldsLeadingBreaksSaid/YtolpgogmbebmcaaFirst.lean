/-
  The contract of zzFirstOfLoop, shape by shape; conditions: the shape is 0 to 8.
-/
import Derived.Test.YtolpgogmbebmcaaExpr
namespace Go.Proofs.Ytolpgogmbebmcaa
open Go.RowKit

/-- A break's data. -/
def IsBreak (w : World) (B : Nat) (v lab : Value) : Prop := ∃ q, v = .iface 60 (.pointer (some ⟨q, 0, none⟩)) ∧ B ≤ q ∧ Has w q 63 #[lab]
/-- An if's data. -/
def IsIf (w : World) (B : Nat) (v T : Value) (TL : Int) (Y : Value) (YL : Int) (N : Value) (NL : Int) : Prop :=
  ∃ q, v = .iface 59 (.pointer (some ⟨q, 0, none⟩)) ∧ B ≤ q ∧ Has w q 65 #[T, .int .i32 TL, Y, .int .i32 YL, N, .int .i32 NL, .bool false, .bool false]
def IsExprStmt (v : Value) : Prop := ∃ q, v = .iface 81 (.pointer (some ⟨q, 0, none⟩))

theorem cell_far2 {w : World} {x g i : Nat} {u : Value} (h : w.cell? ⟨x, i, none⟩ = some u) (hx : g < x) (v l : Value) (o : Obj) : (((w.setCell ⟨g, 0, none⟩ v).setCell ⟨g, 1, none⟩ l).alloc o).cell? ⟨x, i, none⟩ = some u := by
  have hl : x < w.heap.size := World.block_lt_of_cell? w _ h
  have e : (((w.setCell ⟨g, 0, none⟩ v).setCell ⟨g, 1, none⟩ l).alloc o).heap[x]? = w.heap[x]? := by
    rw [Below.heap_alloc _ _ x (by simpa [World.setCell] using hl), Below.heap_setCell _ _ _ x (by show x ≠ g; omega), Below.heap_setCell _ _ _ x (by show x ≠ g; omega)]
  exact (World.cell?_of_block (a := ⟨x, i, none⟩) e).trans h
theorem cell_far3 {w : World} {x g i : Nat} {u : Value} (h : w.cell? ⟨x, i, none⟩ = some u) (hx : g < x) (v l : Value) (o o2 o3 : Obj) : (((((w.alloc o).alloc o2).alloc o3).setCell ⟨g, 0, none⟩ v).setCell ⟨g, 1, none⟩ l).cell? ⟨x, i, none⟩ = some u := by
  have hl := World.block_lt_of_cell? w _ h
  have e : (((((w.alloc o).alloc o2).alloc o3).setCell ⟨g, 0, none⟩ v).setCell ⟨g, 1, none⟩ l).heap[x]? = (((w.alloc o).alloc o2).alloc o3).heap[x]? := by
    rw [Below.heap_setCell _ _ _ x (by show x ≠ g; omega), Below.heap_setCell _ _ _ x (by show x ≠ g; omega)]
  exact (World.cell?_of_block (a := ⟨x, i, none⟩) e).trans (cell3 h hl o o2 o3)

def FirstFacts (w : World) (loc : Int) (s6 s7 s8 s9 s10 : Value) (wx : World) : Prop :=
  ∃ b6 b7 b8 b9 b10 xq yq zq kq lq aq, s6 = .pointer (some ⟨b6, 0, none⟩) ∧ s7 = .pointer (some ⟨b7, 0, none⟩) ∧ s8 = .pointer (some ⟨b8, 0, none⟩) ∧ s9 = .pointer (some ⟨b9, 0, none⟩) ∧ s10 = .pointer (some ⟨b10, 0, none⟩) ∧
    Has wx b6 49 #[.iface 150 (.pointer (some ⟨xq, 0, none⟩)), .int .i32 10] ∧ w.heap.size < xq ∧ wx.cell? ⟨xq, 1, none⟩ = some (.int .u32 2) ∧
    Has wx b7 32 #[.iface 81 (.pointer (some ⟨yq, 0, none⟩)), .int .i32 16777217] ∧ Has wx b8 32 #[.iface 81 (.pointer (some ⟨zq, 0, none⟩)), .int .i32 16777218] ∧
    Has wx b9 32 #[.iface 60 (.pointer (some ⟨kq, 0, none⟩)), .int .i32 0] ∧ w.heap.size < kq ∧ Has wx kq 63 #[.pointer none] ∧
    Has wx b10 32 #[.iface 60 (.pointer (some ⟨lq, 0, none⟩)), .int .i32 0] ∧ w.heap.size < lq ∧ Has wx lq 63 #[.pointer (some ⟨aq, 0, none⟩)] ∧
    Pair wx w.heap.size 32 .nilIface (.int .i32 0) ∧ Has wx (w.heap.size + 1) 30 #[.int .i32 loc] ∧ Below w.heap.size w wx

/-- What the first statement is, shape by shape. -/
def ShapeOf (w : World) (B sh : Nat) (v : Value) : Prop :=
  ∃ x, IsIdent w B x 2 ∧
    ((sh = 0 ∧ ∃ k, IsBreak w B k (.pointer none) ∧ IsIf w B v x 10 k 0 .nilIface 0) ∨
     (sh = 1 ∧ ∃ k y, IsBreak w B k (.pointer none) ∧ IsExprStmt y ∧ IsIf w B v x 10 k 0 y 16777217) ∨
     (sh = 2 ∧ ∃ k y, IsBreak w B k (.pointer none) ∧ IsExprStmt y ∧ IsIf w B v x 10 y 16777217 k 0) ∨
     (sh = 3 ∧ ∃ k nx, IsBreak w B k (.pointer none) ∧ IsNot w B nx x 10 ∧ IsIf w B v nx 11 k 0 .nilIface 0) ∨
     (sh = 4 ∧ ∃ k a, IsBreak w B k (.pointer (some a)) ∧ IsIf w B v x 10 k 0 .nilIface 0) ∨
     (sh = 5 ∧ ∃ y, IsExprStmt y ∧ IsIf w B v x 10 y 16777217 .nilIface 0) ∨
     (sh = 6 ∧ IsExprStmt v) ∨
     (sh = 7 ∧ ∃ y z, IsExprStmt y ∧ IsExprStmt z ∧ IsIf w B v x 10 y 16777217 z 16777218) ∨
     (sh = 8 ∧ ∃ y k a, IsExprStmt y ∧ IsBreak w B k (.pointer (some a)) ∧ IsIf w B v x 10 y 16777217 k 0))

def FirstPost (sh : Nat) (loc : Int) (w : World) (e : Ending) (w' : World) : Prop := ∃ v, e = .returned (.agg #[v, .int .i32 loc]) ∧ v.oneCell' = true ∧ ShapeOf w' w.heap.size sh v ∧ Below w.heap.size w w'

set_option maxHeartbeats 4000000 in
set_option maxRecDepth 100000 in
theorem first_any (sh : Nat) (hsh : sh ≤ 8) (loc : Int) (w : World) : Calls Try.prog 19 #[.int .i64 sh, .int .i32 loc] w (FirstPost sh loc w) := by
  go_enter Try.func19, Try.ntmps19
  go_wp2_with fail
  refine (ident_any 10 2 _).mono ?_
  rintro e w2 ⟨x, rfl, ⟨xq, rfl, hxq, hxc⟩, hb2⟩
  have hbw : Below w.heap.size w w2 := (((Below.refl _ _).alloc (Nat.le_refl _) _).alloc (by simp) _).trans (hb2.mono (by simp; omega))
  have hs := hb2.size
  simp only [World.size_alloc] at hs hxq
  have p1 : Pair w2 w.heap.size 32 .nilIface (.int .i32 0) := ((Pair.new w 32 _ _).alloc _).below hb2 (by simp; omega)
  have p2 : Has w2 (w.heap.size + 1) 30 #[.int .i32 loc] := (Has.new (w.alloc (.cells #[.nilIface, .int .i32 0] 32)) 30 #[.int .i32 loc] (by simp)).below hb2 (by simp)
  have hxl := World.block_lt_of_cell? w2 _ hxc
  go_upto_region 7 with fail
  go_cut [6, 7, 8, 9, 10, 35] (fun s6 s7 s8 s9 s10 s35 wx => s35 = .int .i64 sh ∧ FirstFacts w loc s6 s7 s8 s9 s10 wx)
  case first =>
    go_wp2_with fail
    go_meet
    refine ⟨rfl, w2.heap.size, w2.heap.size + 1 + 1, w2.heap.size + 1 + 1 + 1 + 1, w2.heap.size + 1 + 1 + 1 + 1 + 1 + 1, w2.heap.size + 1 + 1 + 1 + 1 + 1 + 1 + 1 + 1 + 1, xq, w2.heap.size + 1, w2.heap.size + 1 + 1 + 1, w2.heap.size + 1 + 1 + 1 + 1 + 1, w2.heap.size + 1 + 1 + 1 + 1 + 1 + 1 + 1 + 1, w2.heap.size + 1 + 1 + 1 + 1 + 1 + 1 + 1, rfl, rfl, rfl, rfl, rfl, ?_, by omega, ?_, ?_, ?_, ?_, by omega, ?_, ?_, by omega, ?_, ?_, ?_, ?_⟩
    · exact (((((((((Has.new _ _ _ rfl).alloc _).alloc _).alloc _).alloc _).alloc _).alloc _).alloc _).alloc _).alloc _
    · refine (Below.cell (B := w2.heap.size) (w := w2) ?_ (p := ⟨xq, 1, none⟩) hxl).trans hxc
      exact ((((((((((Below.refl w2.heap.size w2).alloc (by omega) _).alloc (by simp) _).alloc (by simp; omega) _).alloc (by simp; omega) _).alloc (by simp; omega) _).alloc (by simp; omega) _).alloc (by simp; omega) _).alloc (by simp; omega) _).alloc (by simp; omega) _).alloc (by simp; omega) _
    · exact (((((((Has.new _ _ _ (by simp)).alloc _).alloc _).alloc _).alloc _).alloc _).alloc _).alloc _
    · exact (((((Has.new _ _ _ (by simp)).alloc _).alloc _).alloc _).alloc _).alloc _
    · exact (((Has.new _ _ _ (by simp)).alloc _).alloc _).alloc _
    · exact ((((Has.new _ _ _ (by simp)).alloc _).alloc _).alloc _).alloc _
    · exact Has.new _ _ _ (by simp)
    · exact (Has.new _ _ _ (by simp)).alloc _
    · exact (((((((((p1.alloc _).alloc _).alloc _).alloc _).alloc _).alloc _).alloc _).alloc _).alloc _).alloc _
    · exact (((((((((p2.alloc _).alloc _).alloc _).alloc _).alloc _).alloc _).alloc _).alloc _).alloc _).alloc _
    · exact (((((((((hbw.alloc (by omega) _).alloc (by simp; omega) _).alloc (by simp; omega) _).alloc (by simp; omega) _).alloc (by simp; omega) _).alloc (by simp; omega) _).alloc (by simp; omega) _).alloc (by simp; omega) _).alloc (by simp; omega) _).alloc (by simp; omega) _
  case rest =>
    clear p1 p2 hxc hxl hs hbw hb2 hxq
    obtain ⟨rfl, b6, b7, b8, b9, b10, xq, yq, zq, kq, lq, aq, rfl, rfl, rfl, rfl, rfl, h6, hxq, hxc, h7, h8, h9, hkq, hk, h10, hlq, hl, hp, h5, hb⟩ := hcut
    have hlt := hp.lt
    have hlt5 := h5.lt
    have hxl := World.block_lt_of_cell? wc _ hxc
    have c6a := h6.cell 0 rfl
    have c6b := h6.cell 1 rfl
    have c7a := h7.cell 0 rfl
    have c7b := h7.cell 1 rfl
    have c8a := h8.cell 0 rfl
    have c8b := h8.cell 1 rfl
    have c9a := h9.cell 0 rfl
    have c9b := h9.cell 1 rfl
    have ca := h10.cell 0 rfl
    have cb := h10.cell 1 rfl
    have c5 := h5.cell 0 rfl
    have l6 := h6.lt
    have l9 := h9.lt
    have f1 : ∀ o, (wc.alloc o).frozen? ⟨w.heap.size, 0, none⟩ = false := fun o => (hp.alloc o).frozen 0
    have f1a : ∀ o o2 o3, (((wc.alloc o).alloc o2).alloc o3).frozen? ⟨w.heap.size, 0, none⟩ = false := fun o o2 o3 => (((hp.alloc o).alloc o2).alloc o3).frozen 0
    have q0 : ∀ o, (wc.alloc o).cell? ⟨w.heap.size, 0, none⟩ = some .nilIface := fun o => (hp.alloc o).c0
    have q0a : ∀ o o2 o3, (((wc.alloc o).alloc o2).alloc o3).cell? ⟨w.heap.size, 0, none⟩ = some .nilIface := fun o o2 o3 => (((hp.alloc o).alloc o2).alloc o3).c0
    have q4 : ∀ v o, ((wc.setCell ⟨w.heap.size, 0, none⟩ v).alloc o).cell? ⟨w.heap.size, 1, none⟩ = some (.int .i32 0) := fun v o => ((hp.set0 v).alloc o).c1
    have f2 : ∀ v o, ((wc.setCell ⟨w.heap.size, 0, none⟩ v).alloc o).frozen? ⟨w.heap.size, 1, none⟩ = false := fun v o => ((hp.set0 v).alloc o).frozen 1
    have q4a : ∀ v o o2 o3, ((((wc.setCell ⟨w.heap.size, 0, none⟩ v).alloc o).alloc o2).alloc o3).cell? ⟨w.heap.size, 1, none⟩ = some (.int .i32 0) := fun v o o2 o3 => ((((hp.set0 v).alloc o).alloc o2).alloc o3).c1
    have f2a : ∀ v o o2 o3, ((((wc.setCell ⟨w.heap.size, 0, none⟩ v).alloc o).alloc o2).alloc o3).frozen? ⟨w.heap.size, 1, none⟩ = false := fun v o o2 o3 => ((((hp.set0 v).alloc o).alloc o2).alloc o3).frozen 1
    have q4b : ∀ o o2 o3 v, ((((wc.alloc o).alloc o2).alloc o3).setCell ⟨w.heap.size, 0, none⟩ v).cell? ⟨w.heap.size, 1, none⟩ = some (.int .i32 0) := fun o o2 o3 v => ((((hp.alloc o).alloc o2).alloc o3).set0 v).c1
    have f2b : ∀ o o2 o3 v, ((((wc.alloc o).alloc o2).alloc o3).setCell ⟨w.heap.size, 0, none⟩ v).frozen? ⟨w.heap.size, 1, none⟩ = false := fun o o2 o3 v => ((((hp.alloc o).alloc o2).alloc o3).set0 v).frozen 1
    have H := Lib.hid (And.intro h5 (And.intro hk (And.intro hl (And.intro hp (And.intro hb hxc)))))
    clear h5 hk hl hp hb hxc h6 h7 h8 h9 h10
    have hcase : sh = 0 ∨ sh = 1 ∨ sh = 2 ∨ sh = 3 ∨ sh = 4 ∨ sh = 5 ∨ sh = 6 ∨ sh = 7 ∨ sh = 8 := by omega
    clear hsh
    rcases hcase with rfl | rfl | rfl | rfl | rfl | rfl | rfl | rfl | rfl
    · go_wp2_with fail
      have r0 : ∀ v l o, (((wc.setCell ⟨w.heap.size, 0, none⟩ v).setCell ⟨w.heap.size, 1, none⟩ l).alloc o).cell? ⟨w.heap.size, 0, none⟩ = some v := fun v l o => ((H.out.2.2.2.1.set v l).alloc o).c0
      have r1 : ∀ v l o, (((wc.setCell ⟨w.heap.size, 0, none⟩ v).setCell ⟨w.heap.size, 1, none⟩ l).alloc o).cell? ⟨w.heap.size, 1, none⟩ = some l := fun v l o => ((H.out.2.2.2.1.set v l).alloc o).c1
      refine bodyPost_ret (v := .agg #[.iface 59 (.pointer (some ⟨wc.heap.size, 0, none⟩)), .int .i32 loc]) (by simp [results, Try.results19, go_sem, r0, r1]) rfl ⟨_, rfl, rfl, ⟨(.iface 150 (.pointer (some ⟨xq, 0, none⟩))), ⟨xq, rfl, by omega, ?_⟩, ?_⟩, ?_⟩
      · exact cell_far2 H.out.2.2.2.2.2 hxq _ _ _
      · exact .inl ⟨rfl, _, ⟨kq, rfl, by omega, ((H.out.2.1.far (p := ⟨w.heap.size, 0, none⟩) (by show kq ≠ w.heap.size; omega) _).far (p := ⟨w.heap.size, 1, none⟩) (by show kq ≠ w.heap.size; omega) _).alloc _⟩, ⟨wc.heap.size, rfl, by omega, Has.new _ _ _ (by simp)⟩⟩
      · exact ((H.out.2.2.2.2.1.setCell (p := ⟨w.heap.size, 0, none⟩) (Nat.le_refl _) _).setCell (p := ⟨w.heap.size, 1, none⟩) (Nat.le_refl _) _).alloc (by simp; omega) _
    · go_wp2_with fail
      have r0 : ∀ v l o, (((wc.setCell ⟨w.heap.size, 0, none⟩ v).setCell ⟨w.heap.size, 1, none⟩ l).alloc o).cell? ⟨w.heap.size, 0, none⟩ = some v := fun v l o => ((H.out.2.2.2.1.set v l).alloc o).c0
      have r1 : ∀ v l o, (((wc.setCell ⟨w.heap.size, 0, none⟩ v).setCell ⟨w.heap.size, 1, none⟩ l).alloc o).cell? ⟨w.heap.size, 1, none⟩ = some l := fun v l o => ((H.out.2.2.2.1.set v l).alloc o).c1
      refine bodyPost_ret (v := .agg #[.iface 59 (.pointer (some ⟨wc.heap.size, 0, none⟩)), .int .i32 loc]) (by simp [results, Try.results19, go_sem, r0, r1]) rfl ⟨_, rfl, rfl, ⟨(.iface 150 (.pointer (some ⟨xq, 0, none⟩))), ⟨xq, rfl, by omega, ?_⟩, ?_⟩, ?_⟩
      · exact cell_far2 H.out.2.2.2.2.2 hxq _ _ _
      · exact .inr (.inl ⟨rfl, _, _, ⟨kq, rfl, by omega, ((H.out.2.1.far (p := ⟨w.heap.size, 0, none⟩) (by show kq ≠ w.heap.size; omega) _).far (p := ⟨w.heap.size, 1, none⟩) (by show kq ≠ w.heap.size; omega) _).alloc _⟩, ⟨yq, rfl⟩, ⟨wc.heap.size, rfl, by omega, Has.new _ _ _ (by simp)⟩⟩)
      · exact ((H.out.2.2.2.2.1.setCell (p := ⟨w.heap.size, 0, none⟩) (Nat.le_refl _) _).setCell (p := ⟨w.heap.size, 1, none⟩) (Nat.le_refl _) _).alloc (by simp; omega) _
    · go_wp2_with fail
      have r0 : ∀ v l o, (((wc.setCell ⟨w.heap.size, 0, none⟩ v).setCell ⟨w.heap.size, 1, none⟩ l).alloc o).cell? ⟨w.heap.size, 0, none⟩ = some v := fun v l o => ((H.out.2.2.2.1.set v l).alloc o).c0
      have r1 : ∀ v l o, (((wc.setCell ⟨w.heap.size, 0, none⟩ v).setCell ⟨w.heap.size, 1, none⟩ l).alloc o).cell? ⟨w.heap.size, 1, none⟩ = some l := fun v l o => ((H.out.2.2.2.1.set v l).alloc o).c1
      refine bodyPost_ret (v := .agg #[.iface 59 (.pointer (some ⟨wc.heap.size, 0, none⟩)), .int .i32 loc]) (by simp [results, Try.results19, go_sem, r0, r1]) rfl ⟨_, rfl, rfl, ⟨(.iface 150 (.pointer (some ⟨xq, 0, none⟩))), ⟨xq, rfl, by omega, ?_⟩, ?_⟩, ?_⟩
      · exact cell_far2 H.out.2.2.2.2.2 hxq _ _ _
      · exact .inr (.inr (.inl ⟨rfl, _, _, ⟨kq, rfl, by omega, ((H.out.2.1.far (p := ⟨w.heap.size, 0, none⟩) (by show kq ≠ w.heap.size; omega) _).far (p := ⟨w.heap.size, 1, none⟩) (by show kq ≠ w.heap.size; omega) _).alloc _⟩, ⟨yq, rfl⟩, ⟨wc.heap.size, rfl, by omega, Has.new _ _ _ (by simp)⟩⟩))
      · exact ((H.out.2.2.2.2.1.setCell (p := ⟨w.heap.size, 0, none⟩) (Nat.le_refl _) _).setCell (p := ⟨w.heap.size, 1, none⟩) (Nat.le_refl _) _).alloc (by simp; omega) _
    · go_wp2_with fail
      have r0 : ∀ v l o o2 o3, (((((wc.alloc o).alloc o2).alloc o3).setCell ⟨w.heap.size, 0, none⟩ v).setCell ⟨w.heap.size, 1, none⟩ l).cell? ⟨w.heap.size, 0, none⟩ = some v := fun v l o o2 o3 => ((((H.out.2.2.2.1.alloc o).alloc o2).alloc o3).set v l).c0
      have r1 : ∀ v l o o2 o3, (((((wc.alloc o).alloc o2).alloc o3).setCell ⟨w.heap.size, 0, none⟩ v).setCell ⟨w.heap.size, 1, none⟩ l).cell? ⟨w.heap.size, 1, none⟩ = some l := fun v l o o2 o3 => ((((H.out.2.2.2.1.alloc o).alloc o2).alloc o3).set v l).c1
      have hN := fun v l o2 o3 => ((((Has.new wc 74 #[.iface 150 (.pointer (some ⟨xq, 0, none⟩)), .int .i32 10, .int .u8 3, .bool false, .bool false] rfl).alloc o2).alloc o3).far (p := ⟨w.heap.size, 0, none⟩) (by show wc.heap.size ≠ w.heap.size; omega) v).far (p := ⟨w.heap.size, 1, none⟩) (by show wc.heap.size ≠ w.heap.size; omega) l
      refine bodyPost_ret (v := .agg #[.iface 59 (.pointer (some ⟨wc.heap.size + 1 + 1, 0, none⟩)), .int .i32 loc]) (by simp [results, Try.results19, go_sem, r0, r1]) rfl ⟨_, rfl, rfl, ⟨(.iface 150 (.pointer (some ⟨xq, 0, none⟩))), ⟨xq, rfl, by omega, ?_⟩, ?_⟩, ?_⟩
      · exact cell_far3 H.out.2.2.2.2.2 hxq _ _ _ _ _
      · exact .inr (.inr (.inr (.inl ⟨rfl, _, _, ⟨kq, rfl, by omega, ((((H.out.2.1.alloc _).alloc _).alloc _).far (p := ⟨w.heap.size, 0, none⟩) (by show kq ≠ w.heap.size; omega) _).far (p := ⟨w.heap.size, 1, none⟩) (by show kq ≠ w.heap.size; omega) _⟩, ⟨wc.heap.size, rfl, by omega, (hN _ _ _ _).lt, (hN _ _ _ _).cell 0 rfl, (hN _ _ _ _).cell 1 rfl, (hN _ _ _ _).cell 2 rfl⟩, ⟨wc.heap.size + 1 + 1, rfl, by omega, ((Has.new _ _ _ (by simp)).far (p := ⟨w.heap.size, 0, none⟩) (by show wc.heap.size + 1 + 1 ≠ w.heap.size; omega) _).far (p := ⟨w.heap.size, 1, none⟩) (by show wc.heap.size + 1 + 1 ≠ w.heap.size; omega) _⟩⟩)))
      · exact ((((H.out.2.2.2.2.1.alloc (by omega) _).alloc (by simp; omega) _).alloc (by simp; omega) _).setCell (p := ⟨w.heap.size, 0, none⟩) (Nat.le_refl _) _).setCell (p := ⟨w.heap.size, 1, none⟩) (Nat.le_refl _) _
    · go_wp2_with fail
      have r0 : ∀ v l o, (((wc.setCell ⟨w.heap.size, 0, none⟩ v).setCell ⟨w.heap.size, 1, none⟩ l).alloc o).cell? ⟨w.heap.size, 0, none⟩ = some v := fun v l o => ((H.out.2.2.2.1.set v l).alloc o).c0
      have r1 : ∀ v l o, (((wc.setCell ⟨w.heap.size, 0, none⟩ v).setCell ⟨w.heap.size, 1, none⟩ l).alloc o).cell? ⟨w.heap.size, 1, none⟩ = some l := fun v l o => ((H.out.2.2.2.1.set v l).alloc o).c1
      refine bodyPost_ret (v := .agg #[.iface 59 (.pointer (some ⟨wc.heap.size, 0, none⟩)), .int .i32 loc]) (by simp [results, Try.results19, go_sem, r0, r1]) rfl ⟨_, rfl, rfl, ⟨(.iface 150 (.pointer (some ⟨xq, 0, none⟩))), ⟨xq, rfl, by omega, ?_⟩, ?_⟩, ?_⟩
      · exact cell_far2 H.out.2.2.2.2.2 hxq _ _ _
      · exact .inr (.inr (.inr (.inr (.inl ⟨rfl, _, _, ⟨lq, rfl, by omega, ((H.out.2.2.1.far (p := ⟨w.heap.size, 0, none⟩) (by show lq ≠ w.heap.size; omega) _).far (p := ⟨w.heap.size, 1, none⟩) (by show lq ≠ w.heap.size; omega) _).alloc _⟩, ⟨wc.heap.size, rfl, by omega, Has.new _ _ _ (by simp)⟩⟩))))
      · exact ((H.out.2.2.2.2.1.setCell (p := ⟨w.heap.size, 0, none⟩) (Nat.le_refl _) _).setCell (p := ⟨w.heap.size, 1, none⟩) (Nat.le_refl _) _).alloc (by simp; omega) _
    · go_wp2_with fail
      have r0 : ∀ v l o, (((wc.setCell ⟨w.heap.size, 0, none⟩ v).setCell ⟨w.heap.size, 1, none⟩ l).alloc o).cell? ⟨w.heap.size, 0, none⟩ = some v := fun v l o => ((H.out.2.2.2.1.set v l).alloc o).c0
      have r1 : ∀ v l o, (((wc.setCell ⟨w.heap.size, 0, none⟩ v).setCell ⟨w.heap.size, 1, none⟩ l).alloc o).cell? ⟨w.heap.size, 1, none⟩ = some l := fun v l o => ((H.out.2.2.2.1.set v l).alloc o).c1
      refine bodyPost_ret (v := .agg #[.iface 59 (.pointer (some ⟨wc.heap.size, 0, none⟩)), .int .i32 loc]) (by simp [results, Try.results19, go_sem, r0, r1]) rfl ⟨_, rfl, rfl, ⟨(.iface 150 (.pointer (some ⟨xq, 0, none⟩))), ⟨xq, rfl, by omega, ?_⟩, ?_⟩, ?_⟩
      · exact cell_far2 H.out.2.2.2.2.2 hxq _ _ _
      · exact .inr (.inr (.inr (.inr (.inr (.inl ⟨rfl, _, ⟨yq, rfl⟩, ⟨wc.heap.size, rfl, by omega, Has.new _ _ _ (by simp)⟩⟩)))))
      · exact ((H.out.2.2.2.2.1.setCell (p := ⟨w.heap.size, 0, none⟩) (Nat.le_refl _) _).setCell (p := ⟨w.heap.size, 1, none⟩) (Nat.le_refl _) _).alloc (by simp; omega) _
    · go_wp2_with fail
      have r0 : ∀ v l o, (((wc.setCell ⟨w.heap.size, 0, none⟩ v).setCell ⟨w.heap.size, 1, none⟩ l).alloc o).cell? ⟨w.heap.size, 0, none⟩ = some v := fun v l o => ((H.out.2.2.2.1.set v l).alloc o).c0
      have r1 : ∀ v l o, (((wc.setCell ⟨w.heap.size, 0, none⟩ v).setCell ⟨w.heap.size, 1, none⟩ l).alloc o).cell? ⟨w.heap.size, 1, none⟩ = some l := fun v l o => ((H.out.2.2.2.1.set v l).alloc o).c1
      refine bodyPost_ret (v := .agg #[.iface 81 (.pointer (some ⟨wc.heap.size, 0, none⟩)), .int .i32 loc]) (by simp [results, Try.results19, go_sem, r0, r1]) rfl ⟨_, rfl, rfl, ⟨(.iface 150 (.pointer (some ⟨xq, 0, none⟩))), ⟨xq, rfl, by omega, ?_⟩, ?_⟩, ?_⟩
      · exact cell_far2 H.out.2.2.2.2.2 hxq _ _ _
      · exact .inr (.inr (.inr (.inr (.inr (.inr (.inl ⟨rfl, _, rfl⟩))))))
      · exact ((H.out.2.2.2.2.1.setCell (p := ⟨w.heap.size, 0, none⟩) (Nat.le_refl _) _).setCell (p := ⟨w.heap.size, 1, none⟩) (Nat.le_refl _) _).alloc (by simp; omega) _
    · go_wp2_with fail
      have r0 : ∀ v l o, (((wc.setCell ⟨w.heap.size, 0, none⟩ v).setCell ⟨w.heap.size, 1, none⟩ l).alloc o).cell? ⟨w.heap.size, 0, none⟩ = some v := fun v l o => ((H.out.2.2.2.1.set v l).alloc o).c0
      have r1 : ∀ v l o, (((wc.setCell ⟨w.heap.size, 0, none⟩ v).setCell ⟨w.heap.size, 1, none⟩ l).alloc o).cell? ⟨w.heap.size, 1, none⟩ = some l := fun v l o => ((H.out.2.2.2.1.set v l).alloc o).c1
      refine bodyPost_ret (v := .agg #[.iface 59 (.pointer (some ⟨wc.heap.size, 0, none⟩)), .int .i32 loc]) (by simp [results, Try.results19, go_sem, r0, r1]) rfl ⟨_, rfl, rfl, ⟨(.iface 150 (.pointer (some ⟨xq, 0, none⟩))), ⟨xq, rfl, by omega, ?_⟩, ?_⟩, ?_⟩
      · exact cell_far2 H.out.2.2.2.2.2 hxq _ _ _
      · exact .inr (.inr (.inr (.inr (.inr (.inr (.inr (.inl ⟨rfl, _, _, ⟨yq, rfl⟩, ⟨zq, rfl⟩, ⟨wc.heap.size, rfl, by omega, Has.new _ _ _ (by simp)⟩⟩)))))))
      · exact ((H.out.2.2.2.2.1.setCell (p := ⟨w.heap.size, 0, none⟩) (Nat.le_refl _) _).setCell (p := ⟨w.heap.size, 1, none⟩) (Nat.le_refl _) _).alloc (by simp; omega) _
    · go_wp2_with fail
      have r0 : ∀ v l o, (((wc.setCell ⟨w.heap.size, 0, none⟩ v).setCell ⟨w.heap.size, 1, none⟩ l).alloc o).cell? ⟨w.heap.size, 0, none⟩ = some v := fun v l o => ((H.out.2.2.2.1.set v l).alloc o).c0
      have r1 : ∀ v l o, (((wc.setCell ⟨w.heap.size, 0, none⟩ v).setCell ⟨w.heap.size, 1, none⟩ l).alloc o).cell? ⟨w.heap.size, 1, none⟩ = some l := fun v l o => ((H.out.2.2.2.1.set v l).alloc o).c1
      refine bodyPost_ret (v := .agg #[.iface 59 (.pointer (some ⟨wc.heap.size, 0, none⟩)), .int .i32 loc]) (by simp [results, Try.results19, go_sem, r0, r1]) rfl ⟨_, rfl, rfl, ⟨(.iface 150 (.pointer (some ⟨xq, 0, none⟩))), ⟨xq, rfl, by omega, ?_⟩, ?_⟩, ?_⟩
      · exact cell_far2 H.out.2.2.2.2.2 hxq _ _ _
      · exact .inr (.inr (.inr (.inr (.inr (.inr (.inr (.inr (⟨rfl, _, _, _, ⟨yq, rfl⟩, ⟨lq, rfl, by omega, ((H.out.2.2.1.far (p := ⟨w.heap.size, 0, none⟩) (by show lq ≠ w.heap.size; omega) _).far (p := ⟨w.heap.size, 1, none⟩) (by show lq ≠ w.heap.size; omega) _).alloc _⟩, ⟨wc.heap.size, rfl, by omega, Has.new _ _ _ (by simp)⟩⟩))))))))
      · exact ((H.out.2.2.2.2.1.setCell (p := ⟨w.heap.size, 0, none⟩) (Nat.le_refl _) _).setCell (p := ⟨w.heap.size, 1, none⟩) (Nat.le_refl _) _).alloc (by simp; omega) _


end Go.Proofs.Ytolpgogmbebmcaa
