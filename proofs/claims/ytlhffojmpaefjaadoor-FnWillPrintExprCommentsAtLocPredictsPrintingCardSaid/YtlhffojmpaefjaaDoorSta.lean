/-
  The printer as the walk meets it: its block, its two maps, what it has printed; conditions: those that each names.
-/
import Derived.Test.YtlhffojmpaefjaaDoorKey
import Derived.WalkSpells
import Derived.WalkLawsBesides
import Derived.Deep.QuietTactic
import Derived.BigQuiet
import Derived.Lib.Builder
import Derived.Lib.LazyBuf
namespace Go.Proofs.YtlhffojmpaefjaaDoor
open Go.RowKit

structure Opt (mw : Bool) (m1 m2 : Nat) (cs : Array Value) : Prop where
  sz : cs.size = 139
  c5 : cs[5]? = some (.map (some m1))
  c6 : cs[6]? = some (.map (some m2))
  c24 : cs[24]? = some (.int .u64 0)
  c25 : cs[25]? = some (.int .i64 0)
  c26 : cs[26]? = some (.int .i64 0)
  c28 : cs[28]? = some (.bool mw)
  c59 : cs[59]? = some (.bool false)
  c60 : cs[60]? = some (.int .i64 (-1))
  c61 : cs[61]? = some (.int .i64 (-1))
  c62 : cs[62]? = some (.int .i64 (-1))
  c63 : cs[63]? = some (.int .i64 (-1))
  c68 : cs[68]? = some (.int .i64 (-1))
theorem Opt.set {mw : Bool} {m1 m2 : Nat} {cs : Array Value} (h : Opt mw m1 m2 cs) (v : Value) : Opt mw m1 m2 (cs.set! 9 v) := by
  obtain ⟨h0, h1, h2, h3, h4, h5, h6, h7, h8, h9, ha, hb, hc⟩ := h
  constructor <;> simp_all
/-- Block g, from B on, holds a printer that has printed l. -/
def PS (B g : Nat) (mw : Bool) (m1 m2 : Nat) (l : List UInt8) (w : World) : Prop :=
  ∃ (cs : Array Value) (v : Value), B ≤ g ∧ w.heap[g]? = some (.cells cs 78 (0, 0)) ∧ Opt mw m1 m2 cs ∧ cs[9]? = some v ∧ w.ownsRow B 5 1 v (Lib.byteCells l).length (Lib.byteCells l)
theorem hlt {w : World} {g : Nat} {o : Obj} (h : w.heap[g]? = some o) : g < w.heap.size := (Array.getElem?_eq_some_iff.1 h).1
theorem PS.keep {B g : Nat} {mw : Bool} {m1 m2 m : Nat} {l : List UInt8} {w w' : World} (h : PS B g mw m1 m2 l w) (hg : w.grownBy w' (some m)) (hm : ∃ es c, w.heap[m]? = some (.map es c)) : PS B g mw m1 m2 l w' := by
  obtain ⟨es, c, hm⟩ := hm
  obtain ⟨cs, v, hB, hc, ho, h9, hown⟩ := h
  refine ⟨cs, v, hB, (hg.block g (hlt hc) (fun e => ?_)).trans hc, ho, h9, hown.kept hg (.inr (fun e => ?_))⟩
  · cases e
    rw [hc] at hm
    cases hm
  · rcases hown.2 with ⟨rfl, _⟩ | ⟨q, cap, cur, rfl, hq, hh, r⟩
    · simp [Value.ownBlock] at e
    · simp only [Value.ownBlock, Option.some.injEq] at e
      subst e
      rw [hh] at hm
      cases hm
theorem PS.up {B g : Nat} {mw : Bool} {m1 m2 : Nat} {l : List UInt8} {w w' : World} (h : PS B g mw m1 m2 l w) (hb : Below w.heap.size w w') : PS B g mw m1 m2 l w' := by
  obtain ⟨cs, v, hB, hg, ho, h15, hown⟩ := h
  refine ⟨cs, v, hB, (hb.block g (hlt hg)).trans hg, ho, h15, ⟨hown.1, ?_⟩⟩
  rcases hown.2 with h | ⟨q, cap, cur, hv, hq, hh, r⟩
  · exact .inl h
  · exact .inr ⟨q, cap, cur, hv, hq, (hb.block q (hlt hh)).trans hh, r⟩
def noteS : ByteArray := ⟨#[47, 47, 32, 110, 111, 116, 101]⟩
/-- Block b holds the one comment. -/
def Note (B : Nat) (w : World) (b : Nat) : Prop := B ≤ b ∧ w.heap[b]? = some (.cells #[.string noteS] 9 (0, 0))
structure ST (B g m1 m2 : Nat) (mw : Bool) (l : List UInt8) (C P : DataW Unit) (nc np : Nat) (w : World) : Prop where
  ps : PS B g mw m1 m2 l w
  mc : MC w m1 nc C
  mp : MP w m2 np P
  b1 : B ≤ m1
  b2 : B ≤ m2
  ne : m1 ≠ m2
  nt : ∀ k (b : Nat), C.atKey k .nil = .lit (.int .i64 b) → Note B w b
theorem ST.up {B g m1 m2 : Nat} {mw : Bool} {l : List UInt8} {C P : DataW Unit} {nc np : Nat} {w w' : World} (h : ST B g m1 m2 mw l C P nc np w) (hb : Below w.heap.size w w') : ST B g m1 m2 mw l C P nc np w' := by
  obtain ⟨h1, h2, h3, h4, h5, h6, h7⟩ := h
  refine ⟨h1.up hb, h2.up (hb.block _ ?_), h3.up (hb.block _ ?_), h4, h5, h6, fun k b hk => ⟨(h7 k b hk).1, (hb.block _ (hlt (h7 k b hk).2)).trans (h7 k b hk).2⟩⟩
  · obtain ⟨_, _, h⟩ := h2.at
    exact hlt h
  · obtain ⟨_, _, h⟩ := h3.at
    exact hlt h
def isN (d : DataW Unit) : Bool := match d with
  | .nil => false
  | _ => true
noncomputable def wl (mw : Bool) (C P : DataW Unit) (x : Int) : Bool := !mw && (isN (hasC C x) && !bP P x)

set_option maxHeartbeats 2000000 in
set_option maxRecDepth 100000 in
theorem will_any (B g m1 m2 : Nat) (mw : Bool) (l : List UInt8) (C P : DataW Unit) (nc np : Nat) (x : Int) (w : World) (hx : (Lit.int .i32 x).wf = true) (h : ST B g m1 m2 mw l C P nc np w) :
    Calls Tryd.prog 12 #[.pointer (some ⟨g, 0, none⟩), .agg #[.int .i32 x]] w fun e w' => e = .returned (.bool (wl mw C P x)) ∧ Below w.heap.size w w' := by
  have hb : ∀ n, Below w.heap.size w ((w.alloc (.cells #[.int .i32 x] 69)).drewN n) := fun n => ((Below.refl _ _).alloc (Nat.le_refl _) _).trans ⟨rfl, rfl, rfl, Nat.le_refl _, fun _ _ => rfl⟩
  have h1 := fun n => ((h.up (hb n)).mc.run hx).1
  have h2 := fun n => (h.up (hb n)).mp.run hx
  have h3 := (h.mc.run hx).2
  unfold loc at h1 h2
  obtain ⟨cs, v, hB, hg, ho, h9, hown⟩ := h.ps
  have hgl := hlt hg
  have c28 : w.cell? ⟨g, 28, none⟩ = some (.bool mw) := (Lib.cell_of_heap hg 28).trans ho.c28
  have c5 : w.cell? ⟨g, 5, none⟩ = some (.map (some m1)) := (Lib.cell_of_heap hg 5).trans ho.c5
  have c6 : w.cell? ⟨g, 6, none⟩ = some (.map (some m2)) := (Lib.cell_of_heap hg 6).trans ho.c6
  have HB := Lib.hid (hb)
  clear hb ho h9 hown hg h
  unfold wl
  have q := run_neq_slice_nil (P := Tryd.prog)
  cases mw
  · rcases h3 with h3 | ⟨b, h3⟩
    · rw [h3] at h1 ⊢
      simp only [vC, isN] at h1 ⊢
      clear h2 h3
      go_enter Tryd.func12, Tryd.ntmps12
      go_wp2_with fail
      go_quiet (fail)
      go_wp2_with fail
      go_ret
      exact ⟨rfl, HB.out _⟩
    · rw [h3] at h1 ⊢
      simp only [vC, isN] at h1 ⊢
      obtain ⟨y, hy⟩ : ∃ y, bP P x = y := ⟨_, rfl⟩
      rw [hy] at h2 ⊢
      clear h3 hy
      cases y
      · go_enter Tryd.func12, Tryd.ntmps12
        go_wp2_with fail
        go_quiet (fail)
        go_wp2_with fail
        go_ret
        exact ⟨rfl, HB.out _⟩
      · go_enter Tryd.func12, Tryd.ntmps12
        go_wp2_with fail
        go_quiet (fail)
        go_wp2_with fail
        go_ret
        exact ⟨rfl, HB.out _⟩
  · clear h1 h2 h3
    go_enter Tryd.func12, Tryd.ntmps12
    go_wp2_with fail
    go_quiet (fail)
    go_wp2_with fail
    go_ret
    exact ⟨rfl, HB.out _⟩
end Go.Proofs.YtlhffojmpaefjaaDoor
