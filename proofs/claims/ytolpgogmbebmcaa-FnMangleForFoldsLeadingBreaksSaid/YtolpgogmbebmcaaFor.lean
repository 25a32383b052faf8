/-
  The contract of mangleFor where it leaves the loop untouched; conditions: those that each case names.
-/
import Derived.Test.YtolpgogmbebmcaaFirst
namespace Go.Proofs.Ytolpgogmbebmcaa
open Go.RowKit

/-- A for statement in memory: its test and its body. -/
def ForAt (w : World) (S : Nat) (T : Value) (TL : Int) (B : Value) (BL : Int) : Prop :=
  ∃ cs, Has w S 51 cs ∧ cs[1]? = some (.int .i32 0) ∧ cs[2]? = some T ∧ cs[3]? = some (.int .i32 TL) ∧ cs[6]? = some B ∧ cs[7]? = some (.int .i32 BL)
section
variable {w w' : World} {S : Nat} {T : Value} {TL : Int} {B : Value} {BL : Int}
theorem ForAt.lt (h : ForAt w S T TL B BL) : S < w.heap.size := by obtain ⟨cs, h1, _⟩ := h; exact h1.lt
theorem ForAt.c1 (h : ForAt w S T TL B BL) : w.cell? ⟨S, 1, none⟩ = some (.int .i32 0) := by obtain ⟨cs, h1, h2, _⟩ := h; exact h1.cell 1 h2
theorem ForAt.c2 (h : ForAt w S T TL B BL) : w.cell? ⟨S, 2, none⟩ = some T := by obtain ⟨cs, h1, _, h2, _⟩ := h; exact h1.cell 2 h2
theorem ForAt.c3 (h : ForAt w S T TL B BL) : w.cell? ⟨S, 3, none⟩ = some (.int .i32 TL) := by obtain ⟨cs, h1, _, _, h2, _⟩ := h; exact h1.cell 3 h2
theorem ForAt.c6 (h : ForAt w S T TL B BL) : w.cell? ⟨S, 6, none⟩ = some B := by obtain ⟨cs, h1, _, _, _, h2, _⟩ := h; exact h1.cell 6 h2
theorem ForAt.c7 (h : ForAt w S T TL B BL) : w.cell? ⟨S, 7, none⟩ = some (.int .i32 BL) := by obtain ⟨cs, h1, _, _, _, _, h2⟩ := h; exact h1.cell 7 h2
theorem ForAt.frozen (h : ForAt w S T TL B BL) (i : Nat) : w.frozen? ⟨S, i, none⟩ = false := by obtain ⟨cs, h1, _⟩ := h; exact h1.frozen i
theorem ForAt.same (h : ForAt w S T TL B BL) (he : w'.heap[S]? = w.heap[S]?) : ForAt w' S T TL B BL := by obtain ⟨cs, h1, h2⟩ := h; exact ⟨cs, he.trans h1, h2⟩
theorem ForAt.up (h : ForAt w S T TL B BL) (hb : Below w.heap.size w w') : ForAt w' S T TL B BL := h.same (hb.block S h.lt)
theorem ForAt.alloc (h : ForAt w S T TL B BL) (o : Obj) : ForAt (w.alloc o) S T TL B BL := h.same (Below.heap_alloc w o S h.lt)
theorem ForAt.set (h : ForAt w S T TL B BL) (x : Value) (l : Int) : ForAt ((w.setCell ⟨S, 2, none⟩ x).setCell ⟨S, 3, none⟩ (.int .i32 l)) S x l B BL := by
  obtain ⟨cs, h1, h2, h3, h4, h5, h6⟩ := h
  have hs : 7 < cs.size := (Array.getElem?_eq_some_iff.1 h6).1
  refine ⟨(cs.setIfInBounds 2 x).setIfInBounds 3 (.int .i32 l), ?_, ?_, ?_, ?_, ?_, ?_⟩
  · unfold Has at h1 ⊢
    simp [World.setCell, Array.getElem?_modify, h1]
  · simp [h2]
  · simp [Array.getElem?_setIfInBounds]
    omega
  · simp [Array.getElem?_setIfInBounds]
    omega
  · simp [h5]
  · simp [h6]
theorem ForAt.setB (h : ForAt w S T TL B BL) (x : Value) (l : Int) : ForAt ((w.setCell ⟨S, 6, none⟩ x).setCell ⟨S, 7, none⟩ (.int .i32 l)) S T TL x l := by
  obtain ⟨cs, h1, h2, h3, h4, h5, h6⟩ := h
  have hs : 7 < cs.size := (Array.getElem?_eq_some_iff.1 h6).1
  refine ⟨(cs.setIfInBounds 6 x).setIfInBounds 7 (.int .i32 l), ?_, ?_, ?_, ?_, ?_, ?_⟩
  · unfold Has at h1 ⊢
    simp [World.setCell, Array.getElem?_modify, h1]
  · simp [h2]
  · simp [h3]
  · simp [h4]
  · simp [Array.getElem?_setIfInBounds]
    omega
  · simp [Array.getElem?_setIfInBounds]
    omega
end

/-- The body's first statement (or the body itself) has this data. -/
def FirstIs (w : World) (bd : Value) (T0 q : Nat) : Prop :=
  (bd = .iface T0 (.pointer (some ⟨q, 0, none⟩)) ∧ ¬ T0 = 26) ∨
  ∃ g b n cap c l, bd = .iface 26 (.pointer (some ⟨g, 0, none⟩)) ∧ Blk w g (.slice (some ⟨b, 0, none⟩) n cap) c ∧ 1 ≤ n ∧ w.cell? ⟨b, 0, none⟩ = some (.iface T0 (.pointer (some ⟨q, 0, none⟩))) ∧ w.cell? ⟨b, 1, none⟩ = some (.int .i32 l)

def CutFirst (w : World) (T0 q : Nat) (wx : World) : Prop := ∃ l, Pair wx w.heap.size 32 (.iface T0 (.pointer (some ⟨q, 0, none⟩))) (.int .i32 l) ∧ Below w.heap.size w wx

set_option maxHeartbeats 4000000 in
set_option maxRecDepth 100000 in
/-- The first statement is no if. -/
theorem mangle_noif (S q T0 : Nat) (T bd : Value) (TL : Int) (w : World) (hS : ForAt w S T TL bd 16777216) (hT0 : ¬ T0 = 59) (hf : FirstIs w bd T0 q) :
    Calls Try.prog 27 #[.pointer (some ⟨S, 0, none⟩)] w fun e w' => e = .returned (.tuple #[]) ∧ Below w.heap.size w w' := by
  have q6 := hS.c6
  have q7 := hS.c7
  have hl := hS.lt
  go_enter Try.func27, Try.ntmps27
  rcases hf with ⟨rfl, hT⟩ | ⟨g, b, n, cap, c, l, rfl, hB, hn, h0, h1⟩
  · have t1 : ∀ (v : Value) (w : World), (Instr.typeAssert (.iface T0 v) 28 26 true).run Try.prog w = .ok (.tuple #[.pointer none, .bool false]) w := fun v w => by rw [ta26, if_neg hT]
    have t2 : ∀ (v : Value) (w : World), (Instr.typeAssert (.iface T0 v) 28 59 true).run Try.prog w = .ok (.tuple #[.pointer none, .bool false]) w := fun v w => by rw [ta59, if_neg hT0]
    go_wp2_with fail
    go_end0
    exact ⟨rfl, (Below.refl _ _).alloc (Nat.le_refl _) _⟩
  · have t1 := ta26
    have t2 : ∀ (v : Value) (w : World), (Instr.typeAssert (.iface T0 v) 28 59 true).run Try.prog w = .ok (.tuple #[.pointer none, .bool false]) w := fun v w => by rw [ta59, if_neg hT0]
    have r0 := hB.cell
    have lb := hB.lt
    have lb1 : b < w.heap.size := World.block_lt_of_cell? w _ h0
    have hn0 : decide ((0 : Int) < (n : Int)) = true := by simp; omega
    clear hB
    go_wp2_with fail
    go_end0
    exact ⟨rfl, (Below.refl _ _).alloc (Nat.le_refl _) _⟩

end Go.Proofs.Ytolpgogmbebmcaa
