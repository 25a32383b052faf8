/-
  The contracts of printing the comment; conditions: those that each names.
-/
import Derived.Test.YtlhffojmpaefjaaDoorNew
import Derived.Test.YtlhffojmpaefjaaDoorIdx
import Derived.Deep.QuietTactic
namespace Go.Proofs.YtlhffojmpaefjaaDoor
open Go.RowKit

theorem ST.print {B g m1 m2 : Nat} {mw : Bool} {l l' : List UInt8} {C P : DataW Unit} {nc np : Nat} {w w2 : World} {cs : Array Value} {v v' : Value} (h : ST B g m1 m2 mw l C P nc np w) (hB : B ≤ g) (hg : w.heap[g]? = some (.cells cs 78 (0, 0))) (ho : Opt mw m1 m2 cs)
    (hown : w.ownsRow B 5 1 v (Lib.byteCells l).length (Lib.byteCells l)) (hgrow : w.grownBy w2 v.ownBlock) (hown' : w2.ownsRow B 5 1 v' (Lib.byteCells l').length (Lib.byteCells l')) : ST B g m1 m2 mw l' C P nc np (w2.setCell ⟨g, 9, none⟩ v') := by
  have hne := Lib.ownBlock_ne hown hg (by decide)
  have hg2 : w2.heap[g]? = some (.cells cs 78 (0, 0)) := (hgrow.block g (hlt hg) fun e => hne e.symm).trans hg
  have hne2 := Lib.ownBlock_ne hown' hg2 (by decide)
  have keyM : ∀ k es c, w.heap[k]? = some (Obj.map es c) → (w2.setCell ⟨g, 9, none⟩ v').heap[k]? = w.heap[k]? := fun k es c hk => by
    have h1 : k ≠ g := fun e => by
      rw [e, hg] at hk
      cases hk
    have h2 : some k ≠ v.ownBlock := fun e => by
      rcases hown.2 with ⟨rfl, _⟩ | ⟨q, cap, cur, rfl, hq, hh, r⟩
      · simp [Value.ownBlock] at e
      · simp only [Value.ownBlock, Option.some.injEq] at e
        subst e
        rw [hh] at hk
        cases hk
    exact (Below.heap_setCell _ _ _ _ h1).trans (hgrow.block k (hlt hk) h2)
  obtain ⟨h1, h2, h3, h4, h5, h6, h7⟩ := h
  refine ⟨⟨cs.set! 9 v', v', hB, ?_, ho.set v', by simp [ho.sz], ?_⟩, h2.up ?_, h3.up ?_, h4, h5, h6, fun k b hk => ⟨(h7 k b hk).1, ?_⟩⟩
  · simp [World.setCell, Array.getElem?_modify, hg2]
  · exact hown'.kept (row := some g) ⟨rfl, rfl, rfl, by simp [World.setCell], fun k _ hk => Below.heap_setCell _ _ _ _ (fun e => hk (by simp [e]))⟩ (Or.inr hne2)
  · obtain ⟨es, c, h⟩ := h2.at
    exact keyM _ _ _ h
  · obtain ⟨es, c, h⟩ := h3.at
    exact keyM _ _ _ h
  · have hn := (h7 k b hk).2
    have hb1 : b ≠ g := fun e => by
      rw [e, hg] at hn
      cases hn
    have hb2 := Lib.ownBlock_ne hown hn (by decide)
    exact ((Below.heap_setCell _ _ _ _ hb1).trans (hgrow.block b (hlt hn) (fun e => hb2 e.symm))).trans hn

/-- The boxed places stay. -/
def Lk (w w' : World) : Prop := ∀ (k : Nat) (cs : Array Value) (fr : Nat × Nat), w.heap[k]? = some (.cells cs 69 fr) → w'.heap[k]? = some (.cells cs 69 fr)
theorem byteInfo : (Tryd.prog.info? 5).map (fun i => (i.zero, i.size, i.bytes)) = some (some (.int .u8 0), 1, 1) := by kernel_rfl
set_option maxHeartbeats 2000000 in
set_option maxRecDepth 100000 in
theorem print_any (B g m1 m2 : Nat) (mw : Bool) (l : List UInt8) (C P : DataW Unit) (nc np : Nat) (s : ByteArray) (w : World) (h : ST B g m1 m2 mw l C P nc np w) (hlen : l.length + s.size ≤ 65536) (hBw : B ≤ w.heap.size) :
    Calls Tryd.prog 16 #[.pointer (some ⟨g, 0, none⟩), .string s] w fun e w' => e = .returned (.tuple #[]) ∧ ST B g m1 m2 mw (l ++ s.data.toList) C P nc np w' ∧ Below B w w' ∧ Lk w w' := by
  obtain ⟨i0, hi, hz0, hz1, hz2⟩ := info_parts byteInfo
  have HI := Lib.hid (And.intro hi (And.intro hz0 (And.intro hz1 hz2)))
  have HL := Lib.hid (show (Lib.byteCells l).length + s.size ≤ 65536 by rw [Lib.byteCells_length]; exact hlen)
  clear hi hz0 hz1 hz2 hlen
  obtain ⟨cs, v, hB, hg, ho, h9, hown⟩ := h.ps
  have c9 : w.cell? ⟨g, 9, none⟩ = some v := (Lib.cell_of_heap hg 9).trans h9
  have hne := Lib.ownBlock_ne hown hg (by decide)
  have H := Lib.hid (And.intro ho h)
  clear ho h9 h
  go_enter Tryd.func16, Tryd.ntmps16
  go_wp2_with (at_builtin; refine Lib.wpList_append_own_string _ rfl _ _ 29 9 rfl B 5 i0 Tryd.underlying29 Tryd.underlying9 HI.out.1 HI.out.2.1 HI.out.2.2.1 HI.out.2.2.2 _ _ _ rfl hown s rfl ?b1 ?b2 ?b3 ?_)
  case b1 => have := HL.out; unfold maxLen; omega
  case b2 => have := HL.out; omega
  case b3 => omega
  intro v' w2 hown' hgrow _
  have hb2 : w2.heap[g]? = some (.cells cs 78 (0, 0)) := (hgrow.block g (hlt hg) fun e => hne e.symm).trans hg
  have d1 : w2.cell? ⟨g, 9, none⟩ = some v := (Lib.cell_of_heap hb2 9).trans ((Lib.cell_of_heap hg 9).symm.trans c9)
  have f1 : w2.frozen? ⟨g, 9, none⟩ = false := Lib.frozen_of_heap hb2 9
  obtain ⟨ao, n', cap, rfl⟩ : ∃ ao n' cap, v' = .slice ao n' cap := by
    rcases hown'.2 with ⟨e, _⟩ | ⟨g, cap, cur, e, _⟩ <;> exact ⟨_, _, _, e⟩
  go_wp2
  go_end0
  refine ⟨rfl, ?_, ((Below.refl B w).grown hgrow (by omega) (fun k hk => (hown.lt k hk).1)).setCell (p := ⟨g, 9, none⟩) hB _, fun k cs' fr hk => ?_⟩
  case refine_2 =>
    have hk1 : k ≠ g := fun e => by
      rw [e, hg] at hk
      cases hk
    have hk2 := Lib.ownBlock_ne hown hk (by decide)
    exact ((Below.heap_setCell _ _ _ _ hk1).trans (hgrow.block k (hlt hk) (fun e => hk2 e.symm))).trans hk
  exact ST.print H.out.2 hB hg H.out.1 hown hgrow (by rw [Lib.byteCells_append]; show w2.ownsRow B 5 1 _ (Lib.byteCells l ++ Lib.strCells s).length (Lib.byteCells l ++ Lib.strCells s); simpa [Lib.strCells_length] using hown')

set_option maxHeartbeats 2000000 in
set_option maxRecDepth 100000 in
theorem save_any (B g m1 m2 : Nat) (mw : Bool) (l : List UInt8) (C P : DataW Unit) (nc np : Nat) (w : World) (h : ST B g m1 m2 mw l C P nc np w) :
    Calls Tryd.prog 14 #[.pointer (some ⟨g, 0, none⟩)] w fun e w' => e = .returned (.int .u8 0) ∧ w = w' := by
  obtain ⟨cs, v, hB, hg, ho, h9, hown⟩ := h.ps
  obtain ⟨a, c, rfl⟩ : ∃ a c, v = .slice a l.length c := by
    rcases hown.2 with ⟨e, e2⟩ | ⟨g, cap, cur, e, _⟩
    · have : l.length = 0 := by
        rw [Lib.byteCells_length] at e2
        exact e2
      exact ⟨none, 0, by rw [this]; exact e⟩
    · rw [Lib.byteCells_length] at e
      exact ⟨_, _, e⟩
  have c9 : w.cell? ⟨g, 9, none⟩ = some (.slice a l.length c) := (Lib.cell_of_heap hg 9).trans h9
  have c60 : w.cell? ⟨g, 60, none⟩ = some (.int .i64 (-1)) := (Lib.cell_of_heap hg 60).trans ho.c60
  have c61 : w.cell? ⟨g, 61, none⟩ = some (.int .i64 (-1)) := (Lib.cell_of_heap hg 61).trans ho.c61
  have c62 : w.cell? ⟨g, 62, none⟩ = some (.int .i64 (-1)) := (Lib.cell_of_heap hg 62).trans ho.c62
  have c63 : w.cell? ⟨g, 63, none⟩ = some (.int .i64 (-1)) := (Lib.cell_of_heap hg 63).trans ho.c63
  obtain ⟨n, hn⟩ : ∃ n, l.length = n := ⟨_, rfl⟩
  rw [hn] at c9
  have hm : ((-1 : Int) == (n : Int)) = false := by
    rw [beq_eq_false_iff_ne]
    omega
  clear ho h9 hown hg h hn
  go_enter Tryd.func14, Tryd.ntmps14
  go_wp2_with fail
  go_ret
  exact ⟨rfl, rfl⟩

set_option maxHeartbeats 2000000 in
set_option maxRecDepth 100000 in
theorem restore_any (g : Nat) (w : World) : Calls Tryd.prog 22 #[.pointer (some ⟨g, 0, none⟩), .int .u8 0] w fun e w' => e = .returned (.tuple #[]) ∧ w = w' := by
  go_enter Tryd.func22, Tryd.ntmps22
  go_wp2_with fail
  go_end0
  exact ⟨rfl, rfl⟩

set_option maxHeartbeats 2000000 in
set_option maxRecDepth 100000 in
theorem indent_any (B g m1 m2 : Nat) (l : List UInt8) (C P : DataW Unit) (nc np : Nat) (w : World) (h : ST B g m1 m2 false l C P nc np w) :
    Calls Tryd.prog 21 #[.pointer (some ⟨g, 0, none⟩)] w fun e w' => e = .returned (.tuple #[]) ∧ w = w' := by
  obtain ⟨cs, v, hB, hg, ho, h9, hown⟩ := h.ps
  have c28 : w.cell? ⟨g, 28, none⟩ = some (.bool false) := (Lib.cell_of_heap hg 28).trans ho.c28
  have c59 : w.cell? ⟨g, 59, none⟩ = some (.bool false) := (Lib.cell_of_heap hg 59).trans ho.c59
  have c25 : w.cell? ⟨g, 25, none⟩ = some (.int .i64 0) := (Lib.cell_of_heap hg 25).trans ho.c25
  have c26 : w.cell? ⟨g, 26, none⟩ = some (.int .i64 0) := (Lib.cell_of_heap hg 26).trans ho.c26
  clear ho h9 hown hg h
  go_enter Tryd.func21, Tryd.ntmps21
  go_wp2_with fail
  go_loop [3] (fun i => i = .int .i64 0) (fun _ => 0)
  case atStart => rfl
  case round =>
    obtain rfl := hrel
    go_wp2_with fail
    go_end0
    exact ⟨rfl, rfl⟩

set_option maxHeartbeats 2000000 in
set_option maxRecDepth 100000 in
theorem esc_note (w : World) : Calls Tryd.prog 29 #[.string noteS, .string ⟨#[47, 115, 99, 114, 105, 112, 116]⟩] w fun e w' => e = .returned (.string noteS) ∧ w = w' := by
  have hn : Lib.indexB noteS ⟨#[60, 47]⟩ = -1 := by decide +kernel
  have HC := Lib.hid (index_no noteS ⟨#[60, 47]⟩ w (by decide) (by decide) (by decide) hn)
  clear hn
  go_enter Tryd.func29, Tryd.ntmps29
  go_wp2_with fail
  refine HC.out.mono ?_
  rintro e w' ⟨rfl, rfl⟩
  go_wp2_with fail
  go_ret
  exact ⟨rfl, rfl⟩

set_option maxHeartbeats 2000000 in
set_option maxRecDepth 100000 in
theorem pfx_note (w : World) : Calls Tryd.prog 15 #[.string noteS, .string ⟨#[47, 42]⟩] w fun e w' => e = .returned (.bool false) ∧ w = w' := by
  unfold noteS
  have hx : (((⟨#[47, 47, 32, 110, 111, 116, 101]⟩ : ByteArray).extract 0 2).toList == [47, 42]) = false := by decide +kernel
  go_enter Tryd.func15, Tryd.ntmps15
  go_wp2_with go_in
  go_ret
  exact ⟨rfl, rfl⟩
end Go.Proofs.YtlhffojmpaefjaaDoor
