/-
  A row of statements built by appending; plain facts; conditions: those that each names.
-/
import Derived.Test.YtolpgogmbebmcaaChn
namespace Go.Proofs.Ytolpgogmbebmcaa
open Go.RowKit

/-- Statements as cells: data, location (the place from 1 on). -/
def stL : List Value → Nat → List Value
  | [], _ => []
  | d :: ds, i => d :: .int .i32 ((i : Int) + 1) :: stL ds (i + 1)
theorem stL_append (d : Value) : ∀ (ds : List Value) (i : Nat), stL (ds ++ [d]) i = stL ds i ++ [d, .int .i32 (((i + ds.length : Nat) : Int) + 1)]
  | [], i => by simp [stL]
  | x :: ds, i => by
    rw [List.cons_append, stL, stL_append d ds (i + 1), stL]
    simp only [List.cons_append, List.length_cons]
    rw [show i + 1 + ds.length = i + (ds.length + 1) by omega]
theorem stL_length : ∀ (ds : List Value) (i : Nat), (stL ds i).length = ds.length * 2
  | [], _ => rfl
  | d :: ds, i => by rw [stL, List.length_cons, List.length_cons, stL_length ds (i + 1), List.length_cons]; omega
theorem stL_get : ∀ (ds : List Value) (i j : Nat), j < ds.length * 2 → (stL ds i)[j]? = some (sc (fun t => ds.getD t .nilIface) (fun t => ((i + t : Nat) : Int) + 1) j)
  | [], _, j, h => by simp at h
  | d :: ds, i, 0, _ => rfl
  | d :: ds, i, 1, _ => by
    show some (Value.int .i32 ((i : Int) + 1)) = _
    unfold sc
    rw [if_neg (by decide)]
    rfl
  | d :: ds, i, j + 2, h => by
    rw [stL, List.getElem?_cons_succ, List.getElem?_cons_succ, stL_get ds (i + 1) j (by rw [List.length_cons] at h; omega)]
    unfold sc
    rw [show (j + 2) % 2 = j % 2 by omega, show (j + 2) / 2 = j / 2 + 1 by omega]
    simp only [List.getD_cons_succ]
    rw [show i + 1 + j / 2 = i + (j / 2 + 1) by omega]
theorem row_of_stL {w : World} {B b N : Nat} {ds : List Value} (h : w.ownsRow B 32 2 (.slice (some ⟨b, 0, none⟩) N N) N (stL ds 0)) (hl : ds.length = N) : Row w b 32 (N * 2) (sc (fun i => ds.getD i .nilIface) (fun i => (i : Int) + 1)) := by
  obtain ⟨h1, ⟨hv, _⟩ | ⟨g, cap, cur, hv, hbg, hg, hnc, hcm, hcs, htake⟩⟩ := h
  · cases hv
  · injection hv with e1 e2 e3
    injection e1 with e1
    injection e1 with e1
    subst e1 e3
    refine ⟨cur, hg, hcs, fun i hi => ?_⟩
    rw [← Array.getElem?_toList]
    have e : cur.toList = stL ds 0 := by rw [← htake, List.take_of_length_le (by rw [Array.length_toList]; omega)]
    rw [e, stL_get ds 0 i (by omega)]
    simp only [Nat.zero_add]

theorem owns_up {w w' : World} {B : Nat} {e : TypeId} {sz : Nat} {v : Value} {n : Nat} {xs : List Value} (h : w.ownsRow B e sz v n xs) (hb : Below w.heap.size w w') : w'.ownsRow B e sz v n xs :=
  h.kept (row := none) ⟨hb.os, hb.tape, hb.output, hb.size, fun k hk _ => hb.block k hk⟩ (Classical.em _)

theorem IsRow.at2 {w : World} {A : Option Addr} {n cap : Nat} {zs : List Int} (h : IsRow .i8 w A n cap zs) {i : Nat} (hi : i < n) : ∃ x c, A = some x ∧ w.cell? (x.add i) = some (.int .i8 c) ∧ c = zs.getD i 0 ∧ -128 ≤ c ∧ c ≤ 127 := by
  rcases h with ⟨_, h, _⟩ | ⟨x, h0, h1, _, h3, h4, h5⟩
  · omega
  · exact ⟨x, _, h0, h4 i (by omega), rfl, bounds_i8 (h5 _ (by rw [List.getD_eq_getElem?_getD, List.getElem?_eq_getElem (by omega)]; exact List.getElem_mem _))⟩

/-- What an appended if leaves. -/
theorem built_if {wr w1 w2 : World} {B xq : Nat} {ref : Int} (hB : B < wr.heap.size) (hb1 : Below wr.heap.size wr w1) (hxq : wr.heap.size ≤ xq) (hxc : w1.cell? ⟨xq, 1, none⟩ = some (.int .u32 ref))
    (hg : (((w1.alloc (.cells #[.pointer none] 63)).alloc (.cells #[.iface 150 (.pointer (some ⟨xq, 0, none⟩)), .int .i32 ref, .iface 60 (.pointer (some ⟨w1.heap.size, 0, none⟩)), .int .i32 0, .nilIface, .int .i32 0, .bool false, .bool false] 65)).alloc (.cells #[.iface 59 (.pointer (some ⟨w1.heap.size + 1, 0, none⟩)), .int .i32 ref] 32)).grownBy w2 (some B)) :
    IfAt w2 (B + 1) (.iface 59 (.pointer (some ⟨w1.heap.size + 1, 0, none⟩))) ref ∧ (∀ i, B + 1 ≤ i → i < wr.heap.size → w2.heap[i]? = wr.heap[i]?) ∧ Below B wr w2 ∧ wr.heap.size ≤ w2.heap.size := by
  have hs1 := hb1.size
  have hxl := World.block_lt_of_cell? w1 _ hxc
  simp only at hxl
  have hall : Below w1.heap.size w1 (((w1.alloc (.cells #[.pointer none] 63)).alloc (.cells #[.iface 150 (.pointer (some ⟨xq, 0, none⟩)), .int .i32 ref, .iface 60 (.pointer (some ⟨w1.heap.size, 0, none⟩)), .int .i32 0, .nilIface, .int .i32 0, .bool false, .bool false] 65)).alloc (.cells #[.iface 59 (.pointer (some ⟨w1.heap.size + 1, 0, none⟩)), .int .i32 ref] 32)) := below3 w1 _ _ _
  have hsz := hg.size
  simp only [World.size_alloc] at hsz
  refine ⟨⟨w1.heap.size + 1, xq, w1.heap.size, rfl, by omega, by omega, by omega, ?_, ?_, ?_⟩, fun i h1 h2 => ?_, ?_, by omega⟩
  · refine (hg.block _ (by simp <;> omega) (by simp <;> omega)).trans ?_
    rw [Below.heap_alloc _ _ _ (by simp)]
    exact Has.new _ _ _ (by simp)
  · refine (hg.block _ (by simp <;> omega) (by simp <;> omega)).trans ?_
    rw [Below.heap_alloc _ _ _ (by simp <;> omega), Below.heap_alloc _ _ _ (by simp)]
    exact Has.new _ _ _ rfl
  · rw [World.cell?_of_block (a := ⟨xq, 1, none⟩) (hg.block xq (by simp <;> omega) (by simp <;> omega)), hall.cell (p := ⟨xq, 1, none⟩) hxl, hxc]
  · rw [hg.block i (by simp <;> omega) (by simp <;> omega), hall.block i (by omega), hb1.block i h2]
  · exact ((hb1.mono (by omega)).trans (hall.mono (by omega))).grown hg (by simp <;> omega) fun k hk => by cases hk; exact Nat.le_refl _
theorem built_kind {wr w1 w2 : World} {B k : Nat} {v : Value} {l : Int} (hB : B < wr.heap.size) (hb1 : Below wr.heap.size wr w1) (hv : IsKind w1 wr.heap.size k v) (hg : (w1.alloc (.cells #[v, .int .i32 l] 32)).grownBy w2 (some B)) :
    IsKind w2 (B + 1) k v ∧ (∀ i, B + 1 ≤ i → i < wr.heap.size → w2.heap[i]? = wr.heap[i]?) ∧ Below B wr w2 ∧ wr.heap.size ≤ w2.heap.size := by
  have hs1 := hb1.size
  have hall : Below w1.heap.size w1 (w1.alloc (.cells #[v, .int .i32 l] 32)) := (Below.refl _ _).alloc (Nat.le_refl _) _
  have hsz := hg.size
  simp only [World.size_alloc] at hsz
  refine ⟨kind_same (hv.mono (by omega)) (by omega) fun i h1 h2 => ?_, fun i h1 h2 => ?_, ?_, by omega⟩
  · rw [hg.block i (by simp <;> omega) (by simp <;> omega), hall.block i h2]
  · rw [hg.block i (by simp <;> omega) (by simp <;> omega), hall.block i (by omega), hb1.block i h2]
  · exact ((hb1.mono (by omega)).trans (hall.mono (by omega))).grown hg (by simp <;> omega) fun k hk => by cases hk; exact Nat.le_refl _
theorem two_new (w : World) (d : Value) (l : Int) (t : TypeId) (n : Nat) (hn : w.heap.size = n) : ∀ j u, [d, .int .i32 l][j]? = some u → (w.alloc (.cells #[d, .int .i32 l] t)).cell? ((⟨n, 0, none⟩ : Addr).add j) = some u := by
  subst hn
  intro j u hj
  have hlt := (List.getElem?_eq_some_iff.1 hj).1
  simp only [List.length_cons, List.length_nil] at hlt
  have : j = 0 ∨ j = 1 := by omega
  rcases this with rfl | rfl
  · injection hj with hj
    subst hj
    rw [show ((⟨w.heap.size, 0, none⟩ : Addr).add 0) = ⟨w.heap.size, 0, none⟩ from rfl]
    exact new_cell w _ t 0 _ _ rfl rfl
  · injection hj with hj
    subst hj
    rw [show ((⟨w.heap.size, 0, none⟩ : Addr).add 1) = ⟨w.heap.size, 1, none⟩ from rfl]
    exact new_cell w _ t 1 _ _ rfl rfl

end Go.Proofs.Ytolpgogmbebmcaa
