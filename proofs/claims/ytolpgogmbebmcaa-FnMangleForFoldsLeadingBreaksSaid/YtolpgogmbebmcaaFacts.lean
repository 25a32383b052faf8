/-
  What a fold of a break leaves in memory; plain facts; conditions: those that each names.
-/
import Derived.Test.YtolpgogmbebmcaaFor
import Derived.Deep.RegionWith
import Derived.BigRegion
namespace Go.Proofs.Ytolpgogmbebmcaa
open Go.RowKit

theorem nn47 : ∀ w, (binOp .neq 47 .nilIface .nilIface).run Try.prog w = .ok (.bool false) w := fun _ => by kernel_rfl
theorem ni47 (T : TypeId) (v : Value) (w : World) : (binOp .neq 47 (.iface T v) .nilIface).run Try.prog w = .ok (.bool true) w := by
  exact run_neq_held_nil w 47 T v (by kernel_rfl)

theorem IsNot.mono {w : World} {B B' : Nat} {v x : Value} {xl : Int} (h : IsNot w B v x xl) (hB : B' ≤ B) : IsNot w B' v x xl := by
  obtain ⟨q, h1, h2, h3⟩ := h
  exact ⟨q, h1, Nat.le_trans hB h2, h3⟩
theorem IsNot.same {w w' : World} {B : Nat} {v x : Value} {xl : Int} (h : IsNot w B v x xl) (hs : w.heap.size ≤ w'.heap.size) (he : ∀ i, B ≤ i → i < w.heap.size → w'.heap[i]? = w.heap[i]?) : IsNot w' B v x xl := by
  obtain ⟨q, h1, h2, h3, h4, h5, h6⟩ := h
  have e := he q h2 h3
  exact ⟨q, h1, h2, by omega, (World.cell?_of_block (a := ⟨q, 0, none⟩) e).trans h4, (World.cell?_of_block (a := ⟨q, 1, none⟩) e).trans h5, (World.cell?_of_block (a := ⟨q, 2, none⟩) e).trans h6⟩
theorem IsNot.setOld {w : World} {B g : Nat} {v x : Value} {xl : Int} (h : IsNot w B v x xl) (hg : g < B) (a b : Value) : IsNot ((w.setCell ⟨g, 0, none⟩ a).setCell ⟨g, 1, none⟩ b) B v x xl :=
  h.same (by simp [World.setCell]) fun i h1 _ => by
    rw [Below.heap_setCell _ _ _ i (by show i ≠ g; omega), Below.heap_setCell _ _ _ i (by show i ≠ g; omega)]

/-- What the new test is made of. -/
def NotOf (w : World) (B : Nat) (X : Value) (XL : Int) (nx : Value) (nl : Int) (w' : World) : Prop :=
  (∃ xq, X = .iface 150 (.pointer (some ⟨xq, 0, none⟩)) ∧ nl = XL ∧ IsNot w' B nx X XL) ∨ (∃ u, X = .iface 71 (.pointer (some ⟨u, 0, none⟩)) ∧ IsNot w 0 X nx nl)

def CutZ (z : Bool) (W : World) (s : Value) (wx : World) : Prop := s = .bool z ∧ wx = W

def CutNot (w w1 : World) (X : Value) (XL : Int) (wx : World) : Prop :=
  ∃ nx nl, Pair wx w1.heap.size 49 nx (.int .i32 nl) ∧ (∃ T q, nx = .iface T (.pointer (some ⟨q, 0, none⟩))) ∧ NotOf w w1.heap.size X XL nx nl wx ∧ Below w1.heap.size w1 wx

theorem Done.farS {M n : Nat} {w w' : World} {s2 h : Bool} {v : Value} {l : Int} {p : Value} {S : Nat} {cs : Array Value} (hd : Done M w n s2 h v l p) (hS : Has w S 51 cs) (he : ∀ i, i ≠ S → w'.heap[i]? = w.heap[i]?) : Done M w' n s2 h v l p := by
  have hne : ∀ g v c, Blk w g v c → g ≠ S := fun g v c hB e => by
    subst e
    have := hB.symm.trans hS
    injection this with this
    injection this with _ this
    exact absurd this (by decide)
  have hne2 : ∀ g m f, Row w g 32 m f → g ≠ S := fun g m f hR e => by
    subst e
    obtain ⟨cs', hR, _⟩ := hR
    have := hR.symm.trans hS
    injection this with this
    injection this with _ this
    exact absurd this (by decide)
  rcases hd with ⟨rfl, g, b, D, L, hv, hp, hl, hn, hg, hb, hB, hR, h0, hL⟩ | hd | ⟨rfl, g, b, o, cap, m, f, hv, hp, hl, hn, h2, hg, hb, hB, hR, hL⟩ | hd
  · exact .inl ⟨rfl, g, b, D, L, hv, hp, hl, hn, hg, hb, (he g (hne _ _ _ hB)).trans hB, hR.same (he b (hne2 _ _ _ hR)), h0, hL⟩
  · exact .inr (.inl hd)
  · exact .inr (.inr (.inl ⟨rfl, g, b, o, cap, m, f, hv, hp, hl, hn, h2, hg, hb, (he g (hne _ _ _ hB)).trans hB, hR.same (he b (hne2 _ _ _ hR)), hL⟩))
  · exact .inr (.inr (.inr hd))

/-- The new test: the old one (if there is one) and the new part. -/
def TestVal (w : World) (B : Nat) (T : Value) (TL : Int) (nx : Value) (nl : Int) (T' : Value) (TL' : Int) : Prop :=
  (T = .nilIface ∧ T' = nx ∧ TL' = nl) ∨ (T ≠ .nilIface ∧ TL' = TL ∧ ∃ e, T' = .iface 66 (.pointer (some ⟨e, 0, none⟩)) ∧ B ≤ e ∧ Has w e 70 #[T, .int .i32 TL, nx, .int .i32 nl, .int .u8 32, .bool false])

def CutTest (wc : World) (S : Nat) (T : Value) (TL : Int) (nx : Value) (nl : Int) (bd : Value) (wx : World) : Prop :=
  ∃ T' TL', ForAt wx S T' TL' bd 16777216 ∧ TestVal wx wc.heap.size T TL nx nl T' TL' ∧ wc.grownBy wx (some S)

theorem ForAt.store {w : World} {S : Nat} {T : Value} {TL : Int} {B : Value} {BL : Int} (h : ForAt w S T TL B BL) (v : Value) (hv : v.oneCell' = true) : (Go.store ⟨S, 6, none⟩ v).run Try.prog w = .ok () (w.setCell ⟨S, 6, none⟩ v) := by
  rw [run_store Try.prog w _ v _ hv]
  simp [h.c6, h.frozen]

/-- What a fold leaves: the new test, what comes of dropping the first statement; all else as it was. -/
def FoldPost (w : World) (S N M n k1 : Nat) (h : Bool) (T p : Value) (TL : Int) (Q : Value → Int → World → Prop) (e : Ending) (w' : World) : Prop :=
  e = .returned (.tuple #[]) ∧ ∃ T' TL' v l row nx nl, ForAt w' S T' TL' v l ∧ Done M w' n (decide (20 ≤ k1)) h v l p ∧ TestVal w' w.heap.size T TL nx nl T' TL' ∧ Q nx nl w' ∧
    (∀ g, row = some g → (N ≤ g ∧ g < M) ∧ ∃ c, w.cell? ⟨g, 1, none⟩ = some (.int .i32 c)) ∧ w.heap.size ≤ w'.heap.size ∧ w'.os = w.os ∧ w'.tape = w.tape ∧ w'.output = w.output ∧ ∀ i, i < w.heap.size → i ≠ S → some i ≠ row → w'.heap[i]? = w.heap[i]?

theorem first_cases {w : World} {Tb qb q : Nat} (hf : FirstIs w (.iface Tb (.pointer (some ⟨qb, 0, none⟩))) 59 q) :
    ∃ P z, (∀ w, (Instr.typeAssert (.iface Tb (.pointer (some ⟨qb, 0, none⟩))) 28 26 true).run Try.prog w = .ok (.tuple #[P, .bool z]) w) ∧
      ((z = false ∧ Tb = 59 ∧ qb = q) ∨ (z = true ∧ ∃ g b n cap c l, P = .pointer (some ⟨g, 0, none⟩) ∧ Tb = 26 ∧ qb = g ∧ Blk w g (.slice (some ⟨b, 0, none⟩) n cap) c ∧ 1 ≤ n ∧ w.cell? ⟨b, 0, none⟩ = some (.iface 59 (.pointer (some ⟨q, 0, none⟩))) ∧ w.cell? ⟨b, 1, none⟩ = some (.int .i32 l))) := by
  rcases hf with ⟨hb, _⟩ | ⟨g, b, n, cap, c, l, hb, h1, h2, h3, h4⟩
  · injection hb with h1 h2
    injection h2 with h2
    injection h2 with h2
    injection h2 with h2
    exact ⟨.pointer none, false, fun w => by rw [ta26, if_neg (by rw [h1]; decide)], .inl ⟨rfl, h1, h2⟩⟩
  · injection hb with e1 e2
    injection e2 with e2
    injection e2 with e2
    injection e2 with e2
    exact ⟨.pointer (some ⟨qb, 0, none⟩), true, fun w => by rw [ta26, if_pos e1], .inr ⟨rfl, g, b, n, cap, c, l, by rw [e2], e1, e2, h1, h2, h3, h4⟩⟩

theorem fold_end {w w1 w3 w5 w6 : World} {S N M n k1 : Nat} {h : Bool} {T X p T' nx v bd : Value} {TL XL TL' nl l : Int} {row : Option Nat} (H1 : Below w.heap.size w w1) (HB3 : Below w1.heap.size w1 w3) (HG5 : w3.grownBy w5 (some S)) (HGR : w.grownBy w5 (some S)) (hg : w5.grownBy w6 row)
    (hrow : ∀ g, row = some g → (N ≤ g ∧ g < M) ∧ ∃ c, w5.cell? ⟨g, 1, none⟩ = some (.int .i32 c)) (hMN : ∀ g, N ≤ g → g < M → g ≠ S) (hd : Done M w6 n (decide (20 ≤ k1)) h v l p) (hS6 : ForAt w6 S T' TL' bd 16777216) (HTV : TestVal w5 w3.heap.size T TL nx nl T' TL') (HNO : NotOf w w1.heap.size X XL nx nl w3) (hl : S < w.heap.size) (hMw : M ≤ w.heap.size) :
    FoldPost w S N M n k1 h T p TL (NotOf w w.heap.size X XL) (.returned (.tuple #[])) ((w6.setCell ⟨S, 6, none⟩ v).setCell ⟨S, 7, none⟩ (.int .i32 l)) := by
  have hs1 := H1.size
  have hs3 := HB3.size
  have hs5 := HG5.size
  have hs6 := hg.size
  have hset : ∀ i, i ≠ S → ((w6.setCell ⟨S, 6, none⟩ v).setCell ⟨S, 7, none⟩ (.int .i32 l)).heap[i]? = w6.heap[i]? := fun i hi => by
    rw [Below.heap_setCell _ _ _ i (by show i ≠ S; exact hi), Below.heap_setCell _ _ _ i (by show i ≠ S; exact hi)]
  have h56 : ∀ i, M ≤ i → i < w5.heap.size → w6.heap[i]? = w5.heap[i]? := fun i h1 h2 => hg.block i h2 fun e => by have := (hrow i e.symm).1.2; omega
  have hsz : ((w6.setCell ⟨S, 6, none⟩ v).setCell ⟨S, 7, none⟩ (.int .i32 l)).heap.size = w6.heap.size := by simp [World.setCell]
  have hrow' : ∀ g, row = some g → (N ≤ g ∧ g < M) ∧ ∃ c, w.cell? ⟨g, 1, none⟩ = some (.int .i32 c) := fun g e => by
    obtain ⟨⟨a1, a2⟩, c, a3⟩ := hrow g e
    exact ⟨⟨a1, a2⟩, c, (World.cell?_of_block (a := ⟨g, 1, none⟩) (HGR.block g (by omega) (by simpa using hMN g a1 a2))).symm.trans a3⟩
  refine ⟨rfl, T', TL', v, l, row, nx, nl, hS6.setB v l, ?_, ?_, ?_, hrow', by omega, hg.os.trans HGR.os, hg.tape.trans HGR.tape, hg.output.trans HGR.output, ?_⟩
  · obtain ⟨cs, hcs, _⟩ := hS6
    exact hd.farS hcs hset
  · rcases HTV with hh | ⟨h0, h1, e, h2, h3, h4⟩
    · exact .inl hh
    · exact .inr ⟨h0, h1, e, h2, by omega, h4.same ((hset e (by omega)).trans (h56 e (by omega) h4.lt))⟩
  · rcases HNO with ⟨x, h1, h2, h3⟩ | hh
    · refine .inl ⟨x, h1, h2, (h3.same (by omega) fun i h4 h5 => ?_).mono (by omega)⟩
      exact ((hset i (by omega)).trans (h56 i (by omega) (by omega))).trans (HG5.block i h5 (by simp; omega))
    · exact .inr hh
  · intro i h1 h2 h3
    exact ((hset i h2).trans (hg.block i (by omega) h3)).trans (HGR.block i h1 (by simpa using h2))

theorem fold_end2 {w w1 w5 w6 : World} {S N M n k1 : Nat} {h : Bool} {T X p T' v bd : Value} {TL XL TL' l : Int} {row : Option Nat} (H1 : Below w.heap.size w w1) (HG5 : w1.grownBy w5 (some S)) (HGR : w.grownBy w5 (some S)) (hg : w5.grownBy w6 row)
    (hrow : ∀ g, row = some g → (N ≤ g ∧ g < M) ∧ ∃ c, w5.cell? ⟨g, 1, none⟩ = some (.int .i32 c)) (hMN : ∀ g, N ≤ g → g < M → g ≠ S) (hd : Done M w6 n (decide (20 ≤ k1)) h v l p) (hS6 : ForAt w6 S T' TL' bd 16777216) (HTV : TestVal w5 w1.heap.size T TL X XL T' TL') (hl : S < w.heap.size) (hMw : M ≤ w.heap.size) :
    FoldPost w S N M n k1 h T p TL (fun nx nl _ => nx = X ∧ nl = XL) (.returned (.tuple #[])) ((w6.setCell ⟨S, 6, none⟩ v).setCell ⟨S, 7, none⟩ (.int .i32 l)) := by
  have hs1 := H1.size
  have hs5 := HG5.size
  have hs6 := hg.size
  have hset : ∀ i, i ≠ S → ((w6.setCell ⟨S, 6, none⟩ v).setCell ⟨S, 7, none⟩ (.int .i32 l)).heap[i]? = w6.heap[i]? := fun i hi => by
    rw [Below.heap_setCell _ _ _ i (by show i ≠ S; exact hi), Below.heap_setCell _ _ _ i (by show i ≠ S; exact hi)]
  have h56 : ∀ i, M ≤ i → i < w5.heap.size → w6.heap[i]? = w5.heap[i]? := fun i h1 h2 => hg.block i h2 fun e => by have := (hrow i e.symm).1.2; omega
  have hsz : ((w6.setCell ⟨S, 6, none⟩ v).setCell ⟨S, 7, none⟩ (.int .i32 l)).heap.size = w6.heap.size := by simp [World.setCell]
  have hrow' : ∀ g, row = some g → (N ≤ g ∧ g < M) ∧ ∃ c, w.cell? ⟨g, 1, none⟩ = some (.int .i32 c) := fun g e => by
    obtain ⟨⟨a1, a2⟩, c, a3⟩ := hrow g e
    exact ⟨⟨a1, a2⟩, c, (World.cell?_of_block (a := ⟨g, 1, none⟩) (HGR.block g (by omega) (by simpa using hMN g a1 a2))).symm.trans a3⟩
  refine ⟨rfl, T', TL', v, l, row, X, XL, hS6.setB v l, ?_, ?_, ⟨rfl, rfl⟩, hrow', by omega, hg.os.trans HGR.os, hg.tape.trans HGR.tape, hg.output.trans HGR.output, ?_⟩
  · obtain ⟨cs, hcs, _⟩ := hS6
    exact hd.farS hcs hset
  · rcases HTV with hh | ⟨h0, h1, e, h2, h3, h4⟩
    · exact .inl hh
    · exact .inr ⟨h0, h1, e, h2, by omega, h4.same ((hset e (by omega)).trans (h56 e (by omega) h4.lt))⟩
  · intro i h1 h2 h3
    exact ((hset i h2).trans (hg.block i (by omega) h3)).trans (HGR.block i h1 (by simpa using h2))
theorem grown_undrew {w w' : World} {row : Option Nat} (h : w.drew.grownBy w' row) : w.grownBy w' row := ⟨h.os, h.tape, h.output, h.size, h.block⟩

end Go.Proofs.Ytolpgogmbebmcaa
