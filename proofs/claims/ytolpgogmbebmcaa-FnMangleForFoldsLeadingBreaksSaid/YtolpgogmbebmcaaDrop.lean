/-
  The contract of dropFirstStatement, case by case; conditions: those that each case names.
-/
import Derived.Test.YtolpgogmbebmcaaBuild
namespace Go.Proofs.Ytolpgogmbebmcaa
open Go.RowKit

theorem nn28 : ∀ w, (binOp .neq 28 .nilIface .nilIface).run Try.prog w = .ok (.bool false) w := fun _ => by kernel_rfl

theorem cell3 {w : World} {p : Addr} {u : Value} (h : w.cell? p = some u) (hp : p.block < w.heap.size) (o1 o2 o3 : Obj) : (((w.alloc o1).alloc o2).alloc o3).cell? p = some u := by
  rw [World.cell?_alloc_lt _ _ p (by simp; omega), World.cell?_alloc_lt _ _ p (by simp; omega), World.cell?_alloc_lt _ _ p hp, h]
theorem frozen3 {w : World} {p : Addr} (h : w.frozen? p = false) (hp : p.block < w.heap.size) (o1 o2 o3 : Obj) : (((w.alloc o1).alloc o2).alloc o3).frozen? p = false := by
  have hb : Below w.heap.size w (((w.alloc o1).alloc o2).alloc o3) := (((Below.refl _ _).alloc (Nat.le_refl _) _).alloc (by simp) _).alloc (by simp; omega) _
  rw [hb.frozen hp, h]

theorem below3 (w : World) (o1 o2 o3 : Obj) : Below w.heap.size w (((w.alloc o1).alloc o2).alloc o3) := (((Below.refl _ _).alloc (Nat.le_refl _) _).alloc (by simp) _).alloc (by simp; omega) _
theorem new_frozen (w : World) (cs : Array Value) (t : TypeId) (i n : Nat) (hn : w.heap.size = n) : (w.alloc (.cells cs t)).frozen? ⟨n, i, none⟩ = false := by
  subst hn
  rw [RowKit.frozen?_alloc_cells]
  simp [World.frozen?]
theorem cell_first (w : World) (cs : Array Value) (t : TypeId) (o2 o3 : Obj) (i : Nat) (u : Value) (h : cs[i]? = some u) : (((w.alloc (.cells cs t)).alloc o2).alloc o3).cell? ⟨w.heap.size, i, none⟩ = some u := by
  rw [World.cell?_alloc_lt _ _ _ (by simp; omega), World.cell?_alloc_lt _ _ _ (by simp)]
  exact new_cell w cs t i _ u rfl h
theorem only_alloc {a w : World} {row : Option Nat} (h : a.grownBy w row) (o : Obj) : a.grownBy (w.alloc o) row :=
  ⟨h.os, h.tape, h.output, Nat.le_trans h.size (by simp), fun i hi hne => (Below.heap_alloc w o i (Nat.lt_of_lt_of_le hi h.size)).trans (h.block i hi hne)⟩
theorem only_set {a w : World} {g : Nat} (h : a.grownBy w (some g)) {p : Addr} (hp : p.block = g ∨ a.heap.size ≤ p.block) (u : Value) : a.grownBy (w.setCell p u) (some g) :=
  ⟨h.os, h.tape, h.output, by simpa [World.setCell] using h.size, fun i hi hne => (Below.heap_setCell w p u i (by
    rintro rfl
    rcases hp with hp | hp
    · exact hne (by rw [hp])
    · omega)).trans (h.block i hi hne)⟩

/-- The block of a block statement: its statements, its closing brace's place. -/
def Blk (w : World) (g : Nat) (v : Value) (c : Int) : Prop := w.heap[g]? = some (.cells #[v, .int .i32 c] 36 (0, 0))
theorem Blk.lt {w : World} {g : Nat} {v : Value} {c : Int} (h : Blk w g v c) : g < w.heap.size := (Array.getElem?_eq_some_iff.1 h).1
theorem Blk.cell {w : World} {g : Nat} {v : Value} {c : Int} (h : Blk w g v c) : w.cell? ⟨g, 0, none⟩ = some v := by
  rw [cell_of_row w g 0 _ 36 (0, 0) h]; rfl
theorem Blk.frozen {w : World} {g : Nat} {v : Value} {c : Int} (h : Blk w g v c) : w.frozen? ⟨g, 0, none⟩ = false := by
  unfold Blk at h; simp [World.frozen?, h]
theorem Blk.alloc {w : World} {g : Nat} {v : Value} {c : Int} (h : Blk w g v c) (o : Obj) : Blk (w.alloc o) g v c := (Below.heap_alloc w o g h.lt).trans h
theorem Blk.set {w : World} {g : Nat} {v : Value} {c : Int} (h : Blk w g v c) (u : Value) : Blk (w.setCell ⟨g, 0, none⟩ u) g u c := by
  unfold Blk at h ⊢
  simp [World.setCell, Array.getElem?_modify, h]
theorem Blk.far {w : World} {g : Nat} {v : Value} {c : Int} (h : Blk w g v c) {p : Addr} (hp : g ≠ p.block) (u : Value) : Blk (w.setCell p u) g v c := (Below.heap_setCell w p u g hp).trans h

set_option maxHeartbeats 1000000 in
set_option maxRecDepth 100000 in
/-- No replacement, the block holds n statements, n not 2: the first is cut off. -/
theorem drop_cut (g b o n cap : Nat) (c bl rl : Int) (w : World) (hn : 1 ≤ n) (h2 : ((n : Int) == 2) = false) (_hcap : n ≤ cap) (hc1 : 2 ≤ cap) (hm : cap ≤ 131072) (hB : Blk w g (.slice (some ⟨b, o, none⟩) n cap) c) :
    Calls Try.prog 26 #[.agg #[.iface 26 (.pointer (some ⟨g, 0, none⟩)), .int .i32 bl], .agg #[.nilIface, .int .i32 rl]] w fun e w' => e = .returned (.agg #[.iface 26 (.pointer (some ⟨g, 0, none⟩)), .int .i32 bl]) ∧ Blk w' g (.slice (some ⟨b, o + 2, none⟩) (n - 1) (cap - 1)) c ∧ w.grownBy w' (some g) := by
  have t1 := ta26
  have t2 := nn28
  have hg := hB.lt
  have hc3 := cell3 hB.cell hg
  have hf3 := frozen3 hB.frozen hg
  have HB := Lib.hid hB
  clear hB
  go_enter Try.func26, Try.ntmps26
  go_wp2
  refine bodyPost_ret (v := .agg #[.iface 26 (.pointer (some ⟨g, 0, none⟩)), .int .i32 bl]) (by simp [results, Try.results26, go_sem]) rfl ⟨rfl, ?_, ?_⟩
  · exact ((((((HB.out.alloc _).alloc _).alloc _).set _).far (by show g ≠ w.heap.size + 1 + 1; omega) _).far (by show g ≠ w.heap.size + 1 + 1; omega) _)
  · exact only_set (only_set (only_set (only_alloc (only_alloc (only_alloc (World.grownBy.refl w _) _) _) _) (.inl rfl) _) (.inr (by show w.heap.size ≤ w.heap.size + 1 + 1; omega)) _) (.inr (by show w.heap.size ≤ w.heap.size + 1 + 1; omega)) _

set_option maxHeartbeats 1000000 in
set_option maxRecDepth 100000 in
/-- No replacement, one statement in a block of capacity one: the block is emptied. -/
theorem drop_cut1 (g b o : Nat) (c bl rl : Int) (w : World) (hB : Blk w g (.slice (some ⟨b, o, none⟩) 1 1) c) :
    Calls Try.prog 26 #[.agg #[.iface 26 (.pointer (some ⟨g, 0, none⟩)), .int .i32 bl], .agg #[.nilIface, .int .i32 rl]] w fun e w' => e = .returned (.agg #[.iface 26 (.pointer (some ⟨g, 0, none⟩)), .int .i32 bl]) ∧ Blk w' g (.slice (some ⟨b, o, none⟩) 0 0) c ∧ w.grownBy w' (some g) := by
  have t1 := ta26
  have t2 := nn28
  have hg := hB.lt
  have hc3 := cell3 hB.cell hg
  have hf3 := frozen3 hB.frozen hg
  have HB := Lib.hid hB
  clear hB
  go_enter Try.func26, Try.ntmps26
  go_wp2
  refine bodyPost_ret (v := .agg #[.iface 26 (.pointer (some ⟨g, 0, none⟩)), .int .i32 bl]) (by simp [results, Try.results26, go_sem]) rfl ⟨rfl, ?_, ?_⟩
  · exact ((((((HB.out.alloc _).alloc _).alloc _).set _).far (by show g ≠ w.heap.size + 1 + 1; omega) _).far (by show g ≠ w.heap.size + 1 + 1; omega) _)
  · exact only_set (only_set (only_set (only_alloc (only_alloc (only_alloc (World.grownBy.refl w _) _) _) _) (.inl rfl) _) (.inr (by show w.heap.size ≤ w.heap.size + 1 + 1; omega)) _) (.inr (by show w.heap.size ≤ w.heap.size + 1 + 1; omega)) _

set_option maxHeartbeats 1000000 in
set_option maxRecDepth 100000 in
/-- No replacement, two statements, the second does not care about scope: it alone is returned. -/
theorem drop_two (g b o cap k B : Nat) (c bl rl l1 : Int) (d1 : Value) (w : World) (hB : Blk w g (.slice (some ⟨b, o, none⟩) 2 cap) c)
    (hb : b < w.heap.size) (c1 : w.cell? ⟨b, o + 2, none⟩ = some d1) (c2 : w.cell? ⟨b, o + 2 + 1, none⟩ = some (.int .i32 l1)) (hk : IsKind w B k d1) (hk2 : k < 20) :
    Calls Try.prog 26 #[.agg #[.iface 26 (.pointer (some ⟨g, 0, none⟩)), .int .i32 bl], .agg #[.nilIface, .int .i32 rl]] w fun e w' => e = .returned (.agg #[d1, .int .i32 l1]) ∧ Below w.heap.size w w' := by
  have t1 := ta26
  have t2 := nn28
  have hg := hB.lt
  have hc3 := cell3 hB.cell hg
  have c13 := cell3 c1 hb
  have c23 := cell3 c2 hb
  go_enter Try.func26, Try.ntmps26
  go_wp2_with fail
  have hbw := below3 w (.cells #[.iface 26 (.pointer (some ⟨g, 0, none⟩)), .int .i32 bl] 32) (.cells #[.nilIface, .int .i32 rl] 32) (.cells #[.nilIface, .int .i32 0] 32)
  refine (care_any k d1 B l1 _ (hk.below hbw)).mono ?_
  rintro e w4 ⟨rfl, hb4⟩
  rw [decide_eq_false (by omega : ¬ 20 ≤ k)]
  have q1 : w4.cell? ⟨g, 0, none⟩ = some (.slice (some ⟨b, o, none⟩) 2 cap) := by rw [hb4.cell (p := ⟨g, 0, none⟩) (by simp; omega)]; exact hc3 _ _ _
  have q2 : w4.cell? ⟨b, o + 2, none⟩ = some d1 := by rw [hb4.cell (p := ⟨b, o + 2, none⟩) (by simp; omega)]; exact c13 _ _ _
  have q3 : w4.cell? ⟨b, o + 2 + 1, none⟩ = some (.int .i32 l1) := by rw [hb4.cell (p := ⟨b, o + 2 + 1, none⟩) (by simp; omega)]; exact c23 _ _ _
  have r1 : w4.cell? ⟨w.heap.size + 1 + 1, 0, none⟩ = some .nilIface := by rw [hb4.cell (p := ⟨w.heap.size + 1 + 1, 0, none⟩) (by simp)]; exact new_cell _ _ _ _ _ _ (by simp) rfl
  have r2 : w4.cell? ⟨w.heap.size + 1 + 1, 1, none⟩ = some (.int .i32 0) := by rw [hb4.cell (p := ⟨w.heap.size + 1 + 1, 1, none⟩) (by simp)]; exact new_cell _ _ _ _ _ _ (by simp) rfl
  have s1 : ∀ j, w4.frozen? ⟨w.heap.size + 1 + 1, j, none⟩ = false := fun j => by rw [hb4.frozen (p := ⟨w.heap.size + 1 + 1, j, none⟩) (by simp)]; exact new_frozen _ _ _ _ _ (by simp)
  have hst : (store ⟨w.heap.size + 1 + 1, 0, none⟩ d1).run Try.prog w4 = .ok () (w4.setCell ⟨w.heap.size + 1 + 1, 0, none⟩ d1) := by
    rw [run_store Try.prog w4 _ d1 _ hk.one]
    simp [r1, s1]
  have hsz := hb4.size
  have hbb : Below w.heap.size w w4 := hbw.trans (hb4.mono (by simp; omega))
  clear hbw hb4 hk c1 c2 c13 c23 hc3 hB
  go_wp2_with fail
  have u1 : (w4.setCell ⟨w.heap.size + 1 + 1, 0, none⟩ d1).cell? ⟨w.heap.size + 1 + 1, 0, none⟩ = some d1 := World.cell?_setCell_same _ _ _ r1
  refine bodyPost_ret (v := .agg #[d1, .int .i32 l1]) (by simp [results, Try.results26, go_sem, u1, r2]) rfl ⟨rfl, ?_⟩
  exact (hbb.setCell (p := ⟨w.heap.size + 1 + 1, 0, none⟩) (by show w.heap.size ≤ w.heap.size + 1 + 1; omega) _).setCell (p := ⟨w.heap.size + 1 + 1, 1, none⟩) (by show w.heap.size ≤ w.heap.size + 1 + 1; omega) _

set_option maxHeartbeats 1000000 in
set_option maxRecDepth 100000 in
/-- No replacement, two statements, the second cares about scope: the first is cut off. -/
theorem drop_cut2 (g b o cap k B : Nat) (c bl rl l1 : Int) (d1 : Value) (w : World) (hcap : 2 ≤ cap) (hm : cap ≤ 131072) (hB : Blk w g (.slice (some ⟨b, o, none⟩) 2 cap) c)
    (hb : b < w.heap.size) (c1 : w.cell? ⟨b, o + 2, none⟩ = some d1) (c2 : w.cell? ⟨b, o + 2 + 1, none⟩ = some (.int .i32 l1)) (hk : IsKind w B k d1) (hk2 : 20 ≤ k) :
    Calls Try.prog 26 #[.agg #[.iface 26 (.pointer (some ⟨g, 0, none⟩)), .int .i32 bl], .agg #[.nilIface, .int .i32 rl]] w fun e w' => e = .returned (.agg #[.iface 26 (.pointer (some ⟨g, 0, none⟩)), .int .i32 bl]) ∧ Blk w' g (.slice (some ⟨b, o + 2, none⟩) 1 (cap - 1)) c ∧ w.grownBy w' (some g) := by
  have t1 := ta26
  have t2 := nn28
  have hg := hB.lt
  have hc3 := cell3 hB.cell hg
  have c13 := cell3 c1 hb
  have c23 := cell3 c2 hb
  go_enter Try.func26, Try.ntmps26
  go_wp2_with fail
  have hbw := below3 w (.cells #[.iface 26 (.pointer (some ⟨g, 0, none⟩)), .int .i32 bl] 32) (.cells #[.nilIface, .int .i32 rl] 32) (.cells #[.nilIface, .int .i32 0] 32)
  refine (care_any k d1 B l1 _ (hk.below hbw)).mono ?_
  rintro e w4 ⟨rfl, hb4⟩
  rw [decide_eq_true hk2]
  have q1 : w4.cell? ⟨g, 0, none⟩ = some (.slice (some ⟨b, o, none⟩) 2 cap) := by rw [hb4.cell (p := ⟨g, 0, none⟩) (by simp; omega)]; exact hc3 _ _ _
  have q2 : w4.cell? ⟨b, o + 2, none⟩ = some d1 := by rw [hb4.cell (p := ⟨b, o + 2, none⟩) (by simp; omega)]; exact c13 _ _ _
  have q3 : w4.cell? ⟨b, o + 2 + 1, none⟩ = some (.int .i32 l1) := by rw [hb4.cell (p := ⟨b, o + 2 + 1, none⟩) (by simp; omega)]; exact c23 _ _ _
  have r1 : w4.cell? ⟨w.heap.size + 1 + 1, 0, none⟩ = some .nilIface := by rw [hb4.cell (p := ⟨w.heap.size + 1 + 1, 0, none⟩) (by simp)]; exact new_cell _ _ _ _ _ _ (by simp) rfl
  have r2 : w4.cell? ⟨w.heap.size + 1 + 1, 1, none⟩ = some (.int .i32 0) := by rw [hb4.cell (p := ⟨w.heap.size + 1 + 1, 1, none⟩) (by simp)]; exact new_cell _ _ _ _ _ _ (by simp) rfl
  have s1 : ∀ j, w4.frozen? ⟨w.heap.size + 1 + 1, j, none⟩ = false := fun j => by rw [hb4.frozen (p := ⟨w.heap.size + 1 + 1, j, none⟩) (by simp)]; exact new_frozen _ _ _ _ _ (by simp)
  have q4 : w4.frozen? ⟨g, 0, none⟩ = false := by rw [hb4.frozen (p := ⟨g, 0, none⟩) (by simp; omega)]; exact frozen3 hB.frozen hg _ _ _
  have p1 : w4.cell? ⟨w.heap.size, 0, none⟩ = some (.iface 26 (.pointer (some ⟨g, 0, none⟩))) := by rw [hb4.cell (p := ⟨w.heap.size, 0, none⟩) (by simp; omega)]; exact cell_first _ _ _ _ _ _ _ rfl
  have p2 : w4.cell? ⟨w.heap.size, 1, none⟩ = some (.int .i32 bl) := by rw [hb4.cell (p := ⟨w.heap.size, 1, none⟩) (by simp; omega)]; exact cell_first _ _ _ _ _ _ _ rfl
  have hsz := hb4.size
  have hB4 : Blk w4 g (.slice (some ⟨b, o, none⟩) 2 cap) c := (hb4.block g (by simp; omega)).trans (((hB.alloc _).alloc _).alloc _)
  have hgr : w.grownBy w4 (some g) := by
    have hbb : Below w.heap.size w w4 := hbw.trans (hb4.mono (by simp; omega))
    exact ⟨hbb.os, hbb.tape, hbb.output, hbb.size, fun i hi _ => hbb.block i hi⟩
  have HB := Lib.hid hB4
  clear hbw hb4 hk c1 c2 c13 c23 hc3 hB hB4
  go_wp2_with fail
  refine bodyPost_ret (v := .agg #[.iface 26 (.pointer (some ⟨g, 0, none⟩)), .int .i32 bl]) (by simp [results, Try.results26, go_sem, r1, r2]) rfl ⟨rfl, ?_, ?_⟩
  · exact ((HB.out.set _).far (by show g ≠ w.heap.size + 1 + 1; omega) _).far (by show g ≠ w.heap.size + 1 + 1; omega) _
  · exact only_set (only_set (only_set hgr (.inl rfl) _) (.inr (by show w.heap.size ≤ w.heap.size + 1 + 1; omega)) _) (.inr (by show w.heap.size ≤ w.heap.size + 1 + 1; omega)) _

end Go.Proofs.Ytolpgogmbebmcaa
