/-
  The walk of FnMangleForCaseTable: it returns true for every input; conditions: those of the row.
-/
import Derived.Test.YtolpgogmbebmcaaMangle
import Derived.Test.YtolpgogmbebmcaaWalkB
namespace Go.Proofs.Ytolpgogmbebmcaa
open Go.RowKit

set_option maxHeartbeats 400000 in
theorem zz17_small (a b : Bool) (r : Int) (A : Option Addr) (n cap : Nat) (w : World) (hn : n ≤ 1048576) : Calls Try.prog 17 #[.bool a, .bool b, .int .i8 r, .slice A n cap] w fun e w' => e = .returned (.bool true) ∧ w = w' := by
  go_enter Try.func17, Try.ntmps17
  go_wp2
  go_ret
  exact ⟨rfl, rfl⟩
set_option maxHeartbeats 400000 in
theorem zz17_large (a b : Bool) (r : Int) (A : Option Addr) (n cap : Nat) (w : World) (hn : 1048576 < n) : Calls Try.prog 17 #[.bool a, .bool b, .int .i8 r, .slice A n cap] w fun e w' => e = .returned (.bool false) ∧ w = w' := by
  go_enter Try.func17, Try.ntmps17
  go_wp2
  go_ret
  exact ⟨rfl, rfl⟩

/-- The shape of a code. -/
def shp (c : Int) : Nat := (c % 9).toNat
theorem shp_le (c : Int) : shp c ≤ 8 := by unfold shp; omega
theorem tmod9 (c : Int) : (c.tmod 9 < 0 → c.tmod 9 + 9 = (shp c : Int)) ∧ (¬ c.tmod 9 < 0 → c.tmod 9 = (shp c : Int)) ∧ -9 < c.tmod 9 ∧ c.tmod 9 < 9 := by
  unfold shp
  by_cases hc : 0 ≤ c
  · rw [Int.tmod_eq_emod_of_nonneg hc]; omega
  · have e : c.tmod 9 = -((-c) % 9) := by
      have h1 : (-c).tmod 9 = (-c) % 9 := Int.tmod_eq_emod_of_nonneg (by omega)
      rw [← h1, Int.neg_tmod]; omega
    rw [e]; omega

def CutSh (c : Int) (w : World) (s : Value) (wx : World) : Prop := s = .int .i64 (shp c : Int) ∧ wx = w
def CutT (w : World) (ht : Bool) (wx : World) : Prop := ∃ T TL, ForAt wx w.heap.size T TL .nilIface 0 ∧ TestIn wx (w.heap.size + 1) ht T TL ∧ Below w.heap.size w wx
/-- The second's kind, if there is a second. -/
def sec (a1 : Bool) (n : Nat) (zs : List Int) : Nat := if a1 = true ∧ 2 ≤ n then norm (zs.getD 0 0) else 0
def BlkIs (wx : World) (a1 : Bool) (n Tb qb : Nat) (p : Value) : Prop :=
  (a1 = false ∧ p = .pointer none) ∨ (a1 = true ∧ ∃ b, Tb = 26 ∧ p = .pointer (some ⟨qb, 0, none⟩) ∧ Blk wx qb (.slice (some ⟨b, 0, none⟩) n n) 0 ∧ wx.cell? ⟨b, 1, none⟩ = some (.int .i32 1))
def CutB (w : World) (S sh len : Nat) (a0 a1 : Bool) (zs : List Int) (s11 s12 : Value) (wx : World) : Prop :=
  ∃ T TL Tb qb T0 q n, s12 = .int .i64 (n : Nat) ∧ n = (if a1 = true then 1 + len else 1) ∧ ForAt wx S T TL (.iface Tb (.pointer (some ⟨qb, 0, none⟩))) 16777216 ∧ TestIn wx 0 a0 T TL ∧ FirstIs wx (.iface Tb (.pointer (some ⟨qb, 0, none⟩))) T0 q ∧
    ShapeOf wx (S + 1) sh (.iface T0 (.pointer (some ⟨q, 0, none⟩))) ∧ (∀ w', wx.grownBy w' (some S) → Body (S + 1) wx.heap.size w' n (sec a1 n zs) (.iface Tb (.pointer (some ⟨qb, 0, none⟩))) s11) ∧ BlkIs wx a1 n Tb qb s11 ∧ Below w.heap.size w wx

theorem ShapeOf.shape {w : World} {B sh : Nat} {v : Value} (h : ShapeOf w B sh v) : ∃ T0 q, v = .iface T0 (.pointer (some ⟨q, 0, none⟩)) ∧ ¬ T0 = 26 := by
  obtain ⟨x, hx, h⟩ := h
  rcases h with ⟨e, k, a1, q, a2, _⟩ | ⟨e, k, y, a1, a2, q, a3, _⟩ | ⟨e, k, y, a1, a2, q, a3, _⟩ | ⟨e, k, nx, a1, a2, q, a3, _⟩ | ⟨e, k, a, a1, q, a2, _⟩ | ⟨e, y, a1, q, a2, _⟩ | ⟨e, q, a1⟩ | ⟨e, y, z, a1, a2, q, a3, _⟩ | ⟨e, y, k, a, a1, a2, q, a3, _⟩
  all_goals exact ⟨_, q, by assumption, by decide⟩
theorem IsIdent.mono {w : World} {B B' : Nat} {v : Value} {ref : Int} (h : IsIdent w B v ref) (hB : B' ≤ B) : IsIdent w B' v ref := by
  obtain ⟨q, h1, h2, h3⟩ := h
  exact ⟨q, h1, by omega, h3⟩
theorem TestIn.mono {w : World} {B B' : Nat} {ht : Bool} {T : Value} {TL : Int} (h : TestIn w B ht T TL) (hB : B' ≤ B) : TestIn w B' ht T TL := by
  rcases h with h | ⟨h1, h2, h3⟩
  · exact .inl h
  · exact .inr ⟨h1, h2, h3.mono hB⟩
theorem IsBreak.mono {w : World} {B B' : Nat} {v l : Value} (h : IsBreak w B v l) (hB : B' ≤ B) : IsBreak w B' v l := by
  obtain ⟨q, h1, h2, h3⟩ := h
  exact ⟨q, h1, by omega, h3⟩
theorem IsIf.mono {w : World} {B B' : Nat} {v T Y N : Value} {a b c : Int} (h : IsIf w B v T a Y b N c) (hB : B' ≤ B) : IsIf w B' v T a Y b N c := by
  obtain ⟨q, h1, h2, h3⟩ := h
  exact ⟨q, h1, by omega, h3⟩
theorem ShapeOf.mono {w : World} {B B' sh : Nat} {v : Value} (h : ShapeOf w B sh v) (hB : B' ≤ B) : ShapeOf w B' sh v := by
  obtain ⟨x, hx, h⟩ := h
  refine ⟨x, hx.mono hB, ?_⟩
  rcases h with ⟨e, k, a1, a2⟩ | ⟨e, k, y, a1, a2, a3⟩ | ⟨e, k, y, a1, a2, a3⟩ | ⟨e, k, nx, a1, a2, a3⟩ | ⟨e, k, a, a1, a2⟩ | ⟨e, y, a1, a2⟩ | ⟨e, a1⟩ | ⟨e, y, z, a1, a2, a3⟩ | ⟨e, y, k, a, a1, a2, a3⟩
  · exact .inl ⟨e, k, a1.mono hB, a2.mono hB⟩
  · exact .inr (.inl ⟨e, k, y, a1.mono hB, a2, a3.mono hB⟩)
  · exact .inr (.inr (.inl ⟨e, k, y, a1.mono hB, a2, a3.mono hB⟩))
  · exact .inr (.inr (.inr (.inl ⟨e, k, nx, a1.mono hB, a2.mono hB, a3.mono hB⟩)))
  · exact .inr (.inr (.inr (.inr (.inl ⟨e, k, a, a1.mono hB, a2.mono hB⟩))))
  · exact .inr (.inr (.inr (.inr (.inr (.inl ⟨e, y, a1, a2.mono hB⟩)))))
  · exact .inr (.inr (.inr (.inr (.inr (.inr (.inl ⟨e, a1⟩))))))
  · exact .inr (.inr (.inr (.inr (.inr (.inr (.inr (.inl ⟨e, y, z, a1, a2, a3.mono hB⟩)))))))
  · exact .inr (.inr (.inr (.inr (.inr (.inr (.inr (.inr ⟨e, y, k, a, a1, a2.mono hB, a3.mono hB⟩)))))))

/-- The body is one statement. -/
theorem cutB_single {w w1 w2 : World} {S sh len : Nat} {a0 : Bool} {zs : List Int} {T v : Value} {TL : Int} (hSe : S = w.heap.size) (hS : ForAt w1 S T TL .nilIface 0) (hT : TestIn w1 (S + 1) a0 T TL) (hb1 : Below w.heap.size w w1) (hsh : ShapeOf w2 w1.heap.size sh v) (hb2 : Below w1.heap.size w1 w2) :
    CutB w S sh len a0 false zs (.pointer none) (.int .i64 1) ((w2.setCell ⟨S, 6, none⟩ v).setCell ⟨S, 7, none⟩ (.int .i32 16777216)) := by
  have hl := hS.lt
  have hs2 := hb2.size
  have hsz : ((w2.setCell ⟨S, 6, none⟩ v).setCell ⟨S, 7, none⟩ (.int .i32 16777216)).heap.size = w2.heap.size := by simp [World.setCell]
  have hset : ∀ i, i ≠ S → ((w2.setCell ⟨S, 6, none⟩ v).setCell ⟨S, 7, none⟩ (.int .i32 16777216)).heap[i]? = w2.heap[i]? := fun i hi => by
    rw [Below.heap_setCell _ _ _ i (by show i ≠ S; exact hi), Below.heap_setCell _ _ _ i (by show i ≠ S; exact hi)]
  obtain ⟨T0, q, rfl, hT0⟩ := hsh.shape
  refine ⟨T, TL, T0, q, T0, q, 1, rfl, rfl, (hS.up hb2).setB _ _, ?_, .inl ⟨rfl, hT0⟩, ?_, fun w' _ => .inr (.inr ⟨rfl, .inr ⟨_, _, rfl, hT0⟩⟩), .inl ⟨rfl, rfl⟩, ?_⟩
  · exact (hT.same fun i h1 h2 => (hset i (by omega)).trans (hb2.block i h2)).mono (Nat.zero_le _)
  · exact (hsh.same (by omega) fun i h1 h2 => hset i (by omega)).mono (by omega)
  · subst hSe
    exact ((hb1.trans (hb2.mono (by omega))).setCell (p := ⟨w.heap.size, 6, none⟩) (Nat.le_refl _) _).setCell (p := ⟨w.heap.size, 7, none⟩) (Nat.le_refl _) _

/-- The body is a block. -/
theorem cutB_block {w w1 w2 w3 wr : World} {S sh len n : Nat} {a0 : Bool} {zs : List Int} {T v : Value} {TL : Int} {D : Nat → Value} (hSe : S = w.heap.size) (hS : ForAt w1 S T TL .nilIface 0) (hT : TestIn w1 (S + 1) a0 T TL) (hb1 : Below w.heap.size w w1) (hn : n = 1 + len) (hn2 : n ≤ 131072)
    (hlt : w1.heap.size < w2.heap.size) (hsh : ShapeOf w3 w2.heap.size sh v) (hb12 : Below w1.heap.size w1 w2) (hb23 : Below w2.heap.size w2 w3)
    (hg : ((w3.setCell ⟨w1.heap.size, 0, none⟩ v).setCell ⟨w1.heap.size, 1, none⟩ (.int .i32 1)).grownBy wr (some w1.heap.size)) (hR : Row wr w1.heap.size 32 (n * 2) (sc D (fun i => (i : Int) + 1))) (hD : D 0 = v) (hK : ∀ i, 1 ≤ i → i < n → IsKind wr (w1.heap.size + 1) (norm (zs.getD (i - 1) 0)) (D i)) :
    CutB w S sh len a0 true zs (.pointer (some ⟨wr.heap.size, 0, none⟩)) (.int .i64 n) (((wr.alloc (.cells #[.slice (some ⟨w1.heap.size, 0, none⟩) n n, .int .i32 0] 36)).setCell ⟨S, 6, none⟩ (.iface 26 (.pointer (some ⟨wr.heap.size, 0, none⟩)))).setCell ⟨S, 7, none⟩ (.int .i32 16777216)) := by
  have hl := hS.lt
  have hs2 := hb12.size
  have hs3 := hb23.size
  have hs4 : ((w3.setCell ⟨w1.heap.size, 0, none⟩ v).setCell ⟨w1.heap.size, 1, none⟩ (.int .i32 1)).heap.size = w3.heap.size := by simp [World.setCell]
  have hsr := hg.size
  have hb4 := ((Below.refl w1.heap.size w3).setCell (p := ⟨w1.heap.size, 0, none⟩) (Nat.le_refl _) v).setCell (p := ⟨w1.heap.size, 1, none⟩) (Nat.le_refl _) (.int .i32 1)
  have hbr : Below w1.heap.size w1 wr := ((hb12.trans (hb23.mono hs2)).trans hb4).trans (below_of_grown hg (by omega) fun x hx => by cases hx; exact Nat.le_refl _)
  have hup : ∀ i, w2.heap.size ≤ i → i < w3.heap.size → wr.heap[i]? = w3.heap[i]? := fun i h1 h2 => by
    rw [hg.block i (by omega) (by simp; omega), Below.heap_setCell _ _ _ i (by show i ≠ w1.heap.size; omega), Below.heap_setCell _ _ _ i (by show i ≠ w1.heap.size; omega)]
  have hset : ∀ i, i ≠ S → i < wr.heap.size → (((wr.alloc (.cells #[.slice (some ⟨w1.heap.size, 0, none⟩) n n, .int .i32 0] 36)).setCell ⟨S, 6, none⟩ (.iface 26 (.pointer (some ⟨wr.heap.size, 0, none⟩)))).setCell ⟨S, 7, none⟩ (.int .i32 16777216)).heap[i]? = wr.heap[i]? := fun i hi h2 => by
    rw [Below.heap_setCell _ _ _ i (by show i ≠ S; exact hi), Below.heap_setCell _ _ _ i (by show i ≠ S; exact hi), Below.heap_alloc _ _ i h2]
  have hsz : (((wr.alloc (.cells #[.slice (some ⟨w1.heap.size, 0, none⟩) n n, .int .i32 0] 36)).setCell ⟨S, 6, none⟩ (.iface 26 (.pointer (some ⟨wr.heap.size, 0, none⟩)))).setCell ⟨S, 7, none⟩ (.int .i32 16777216)).heap.size = wr.heap.size + 1 := by simp [World.setCell]
  have hB : Blk (((wr.alloc (.cells #[.slice (some ⟨w1.heap.size, 0, none⟩) n n, .int .i32 0] 36)).setCell ⟨S, 6, none⟩ (.iface 26 (.pointer (some ⟨wr.heap.size, 0, none⟩)))).setCell ⟨S, 7, none⟩ (.int .i32 16777216)) wr.heap.size (.slice (some ⟨w1.heap.size, 0, none⟩) n n) 0 :=
    Blk.far (Blk.far (heap_alloc_new wr _) (by show wr.heap.size ≠ S; omega) _) (by show wr.heap.size ≠ S; omega) _
  have hRl := hR.lt
  have hR' := hR.same (hset w1.heap.size (by omega) hRl)
  obtain ⟨T0, q, rfl, hT0⟩ := hsh.shape
  have hc0 := hR'.cell (i := 0 * 2) (by omega)
  have hc1 := hR'.cell (i := 0 * 2 + 1) (by omega)
  rw [sc_even, hD] at hc0
  rw [sc_odd] at hc1
  refine ⟨T, TL, 26, wr.heap.size, T0, q, n, rfl, by rw [if_pos rfl]; exact hn, ((hS.same (hbr.block S hl)).alloc _).setB _ _, ?_, .inr ⟨_, _, _, _, _, _, rfl, hB, by omega, hc0, hc1⟩, ?_, fun w' hw' => .inl ⟨_, w1.heap.size, D, rfl, rfl, ?_⟩, .inr ⟨rfl, _, rfl, rfl, hB, hc1⟩, ?_⟩
  · exact (hT.same fun i h1 h2 => (hset i (by omega) (by omega)).trans (hbr.block i h2)).mono (Nat.zero_le _)
  · exact (hsh.same (by omega) fun i h1 h2 => (hset i (by omega) (by omega)).trans (hup i h1 h2)).mono (by omega)
  · refine ⟨by omega, by omega, by omega, by omega, by omega, by omega, by omega, (hw'.block _ (by omega) (by simp; omega)).trans hB, hR'.same (hw'.block _ (by omega) (by simp; omega)), fun h2 => ?_⟩
    unfold sec
    rw [if_pos ⟨rfl, h2⟩]
    refine ((hK 1 (Nat.le_refl _) (by omega)).same ?_ fun i h3 h4 => ?_).mono (Nat.zero_le _)
    · have := hw'.size
      omega
    · exact (hw'.block i (by omega) (by simp; omega)).trans (hset i (by omega) h4)
  · subst hSe
    exact ((((hb1.trans (hbr.mono (by omega))).alloc (by omega) _).setCell (p := ⟨w.heap.size, 6, none⟩) (Nat.le_refl _) _).setCell (p := ⟨w.heap.size, 7, none⟩) (Nat.le_refl _) _)

end Go.Proofs.Ytolpgogmbebmcaa
