/-
  The contracts of the printer's making, of adding a comment, of marking a place and of what has been printed; conditions: those that each names.
-/
import Derived.Test.YtlhffojmpaefjaaDoorSta
import Derived.Laws.EntriesVeiled
import Derived.Carry
namespace Go.Proofs.YtlhffojmpaefjaaDoor
open Go.RowKit

theorem Note.keep {B b m : Nat} {w w' : World} (h : Note B w b) (hg : w.grownBy w' (some m)) (hm : ∃ es c, w.heap[m]? = some (.map es c)) : Note B w' b := by
  obtain ⟨es, c, hm⟩ := hm
  refine ⟨h.1, (hg.block b (hlt h.2) (fun e => ?_)).trans h.2⟩
  cases e
  have := h.2
  rw [hm] at this
  cases this
theorem nt_put {C : DataW Unit} {kl : Lit} (hC : Go.Maps.IsMap C) (hk : WideAt.IsKeyLit kl) {b c : Nat} {k : Lit} (h : (C.put kl (.lit (.int .i64 b))).atKey k .nil = .lit (.int .i64 c)) : b = c ∨ C.atKey k .nil = .lit (.int .i64 c) := by
  by_cases he : k = kl
  · subst he
    rw [Go.Maps.atKey_put_same hC hk] at h
    simp only [DataW.lit.injEq, Lit.int.injEq, true_and] at h
    exact .inl (by omega)
  · rw [Go.Maps.atKey_put_other he] at h
    exact .inr h
theorem ST.addK {B g m1 m2 : Nat} {mw : Bool} {l : List UInt8} {C P : DataW Unit} {nc np n' : Nat} {w w' : World} {kl : Lit} {b : Nat} (h : ST B g m1 m2 mw l C P nc np w) (hk : WideAt.IsKeyLit kl) (hown : MC w' m1 n' (C.put kl (.lit (.int .i64 b)))) (hg : w.grownBy w' (some m1)) (hn : Note B w b) :
    ST B g m1 m2 mw l (C.put kl (.lit (.int .i64 b))) P n' np w' := by
  obtain ⟨h1, h2, h3, h4, h5, h6, h7⟩ := h
  have hm := h2.at
  refine ⟨h1.keep hg hm, hown, h3.up (hg.block m2 ?_ (fun e => h6 (Option.some.inj e).symm)), h4, h5, h6, fun k c hkc => ?_⟩
  · obtain ⟨_, _, h⟩ := h3.at
    exact hlt h
  · rcases nt_put h2.isMap hk hkc with rfl | h
    · exact hn.keep hg hm
    · exact (h7 k c h).keep hg hm
theorem ST.addC {B g m1 m2 : Nat} {mw : Bool} {l : List UInt8} {C P : DataW Unit} {nc np n' : Nat} {w w' : World} {x : Int} {b : Nat} (h : ST B g m1 m2 mw l C P nc np w) (hx : (Lit.int .i32 x).wf = true) (hown : MC w' m1 n' (C.put (kx x) (.lit (.int .i64 b)))) (hg : w.grownBy w' (some m1)) (hn : Note B w b) :
    ST B g m1 m2 mw l (C.put (kx x) (.lit (.int .i64 b))) P n' np w' := by
  obtain ⟨kl, hkl⟩ : ∃ kl, kx x = kl := ⟨_, rfl⟩
  have hk := kx_lit hx hkl
  rw [hkl] at hown ⊢
  exact h.addK hk hown hg hn
theorem ST.addP {B g m1 m2 : Nat} {mw : Bool} {l : List UInt8} {C P P' : DataW Unit} {nc np n' : Nat} {w w' : World} (h : ST B g m1 m2 mw l C P nc np w) (hown : MP w' m2 n' P') (hg : w.grownBy w' (some m2)) :
    ST B g m1 m2 mw l C P' nc n' w' := by
  obtain ⟨h1, h2, h3, h4, h5, h6, h7⟩ := h
  have hm := h3.at
  refine ⟨h1.keep hg hm, h2.up (hg.block m1 ?_ (fun e => h6 (Option.some.inj e))), hown, h4, h5, h6, fun k c hk => (h7 k c hk).keep hg hm⟩
  obtain ⟨_, _, h⟩ := h2.at
  exact hlt h

set_option maxHeartbeats 2000000 in
set_option maxRecDepth 100000 in
theorem add_any (B g m1 m2 : Nat) (mw : Bool) (l : List UInt8) (C P : DataW Unit) (nc np : Nat) (x : Int) (w : World) (hx : (Lit.int .i32 x).wf = true) (h : ST B g m1 m2 mw l C P nc np w) (hB : B ≤ w.heap.size) (hn : nc < 1048577) :
    Calls Tryd.prog 7 #[.pointer (some ⟨g, 0, none⟩), .int .i32 x] w fun e w' => e = .returned (.tuple #[]) ∧ ST B g m1 m2 mw l (C.put (kx x) (.lit (.int .i64 (w.heap.size : Nat)))) P (nc + 1) np w' ∧ Below B w w' := by
  have hb : Below w.heap.size w (w.alloc (.cells #[.string noteS] 9)) := (Below.refl _ _).alloc (Nat.le_refl _) _
  have hu := h.up hb
  obtain ⟨cs, v, hBg, hg, ho, h9, hown⟩ := h.ps
  have c5 : w.cell? ⟨g, 5, none⟩ = some (.map (some m1)) := (Lib.cell_of_heap hg 5).trans ho.c5
  have hgl := hlt hg
  have HU := Lib.hid (And.intro hu (And.intro hb (And.intro hx hB)))
  clear hb hu ho h9 hown hg h hx
  go_enter Tryd.func7, Tryd.ntmps7
  go_wp2_with (at_mapUpdate; refine wpList_mapUpdate_own (H := Unit) _ rfl _ _ _ 48 rfl 69 62 locK Tryd.underlying48 RC m1 nc C rfl HU.out.1.mc (by unfold maxLen; omega) _ _ (kx x) rfl rfl (key_kx HU.out.2.2.1) (.lit (.int .i64 (w.heap.size : Nat))) [] rfl ?_; intro w1 hown1 hgrow1)
  go_wp2_with fail
  go_end0
  refine ⟨rfl, HU.out.1.addC HU.out.2.2.1 hown1 hgrow1 ⟨HU.out.2.2.2, ?_⟩, ((HU.out.2.1).mono HU.out.2.2.2).grown hgrow1 (by simp; omega) (fun k hk => ?_)⟩
  · exact heap_alloc_new w _
  · cases hk
    exact HU.out.1.b1

set_option maxHeartbeats 2000000 in
set_option maxRecDepth 100000 in
theorem mark_any (B g m1 m2 : Nat) (mw : Bool) (l : List UInt8) (C P : DataW Unit) (nc np : Nat) (x : Int) (w : World) (hx : (Lit.int .i32 x).wf = true) (h : ST B g m1 m2 mw l C P nc np w) (hB : B ≤ w.heap.size) (hn : np < 1048577) :
    Calls Tryd.prog 8 #[.pointer (some ⟨g, 0, none⟩), .int .i32 x] w fun e w' => e = .returned (.tuple #[]) ∧ ST B g m1 m2 mw l C (P.put (kx x) (.lit (.bool true))) nc (np + 1) w' ∧ Below B w w' := by
  obtain ⟨cs, v, hBg, hg, ho, h9, hown⟩ := h.ps
  have c6 : w.cell? ⟨g, 6, none⟩ = some (.map (some m2)) := (Lib.cell_of_heap hg 6).trans ho.c6
  have hgl := hlt hg
  have HU := Lib.hid (And.intro h (And.intro hx hB))
  clear ho h9 hown hg h hx
  go_enter Tryd.func8, Tryd.ntmps8
  go_wp2_with (at_mapUpdate; refine wpList_mapUpdate_own (H := Unit) _ rfl _ _ _ 49 rfl 69 4 locK Tryd.underlying49 (plainElem Tryd.prog 4) m2 np P rfl HU.out.1.mp (by unfold maxLen; omega) _ _ (kx x) rfl rfl (key_kx HU.out.2.1) (.lit (.bool true)) [] (plainElem_bool Tryd.underlying4 true) ?_; intro w1 hown1 hgrow1)
  go_wp2_with fail
  go_end0
  refine ⟨rfl, HU.out.1.addP hown1 hgrow1, (Below.refl _ _).grown hgrow1 (by omega) (fun k hk => ?_)⟩
  cases hk
  exact HU.out.1.b2

set_option maxHeartbeats 2000000 in
set_option maxRecDepth 100000 in
theorem js_any (B g m1 m2 : Nat) (mw : Bool) (l : List UInt8) (C P : DataW Unit) (nc np : Nat) (w : World) (h : ST B g m1 m2 mw l C P nc np w) :
    Calls Tryd.prog 10 #[.pointer (some ⟨g, 0, none⟩)] w fun e w' => (∃ a c, e = .returned (.slice a l.length c)) ∧ w = w' := by
  obtain ⟨cs, v, hBg, hg, ho, h9, hown⟩ := h.ps
  obtain ⟨a, c, rfl⟩ : ∃ a c, v = .slice a l.length c := by
    rcases hown.2 with ⟨e, e2⟩ | ⟨g, cap, cur, e, _⟩
    · have : l.length = 0 := by
        rw [Lib.byteCells_length] at e2
        exact e2
      exact ⟨none, 0, by rw [this]; exact e⟩
    · rw [Lib.byteCells_length] at e
      exact ⟨_, _, e⟩
  have c9 : w.cell? ⟨g, 9, none⟩ = some (.slice a l.length c) := (Lib.cell_of_heap hg 9).trans h9
  clear ho h9 hown hg h
  go_enter Tryd.func10, Tryd.ntmps10
  go_wp2_with fail
  go_ret
  exact ⟨⟨a, c, rfl⟩, rfl⟩

set_option maxHeartbeats 2000000 in
set_option maxRecDepth 100000 in
theorem wrap9 (B g m1 m2 : Nat) (mw : Bool) (l : List UInt8) (C P : DataW Unit) (nc np : Nat) (x : Int) (w : World) (hx : (Lit.int .i32 x).wf = true) (h : ST B g m1 m2 mw l C P nc np w) :
    Calls Tryd.prog 9 #[.pointer (some ⟨g, 0, none⟩), .int .i32 x] w fun e w' => e = .returned (.bool (wl mw C P x)) ∧ Below w.heap.size w w' := by
  have HU := Lib.hid (will_any B g m1 m2 mw l C P nc np x w hx h)
  clear h hx
  obtain ⟨z, hz⟩ : ∃ z, wl mw C P x = z := ⟨_, rfl⟩
  rw [hz] at HU ⊢
  clear hz
  go_enter Tryd.func9, Tryd.ntmps9
  go_wp2_with fail
  refine HU.out.mono ?_
  rintro e w' ⟨rfl, hb⟩
  have HB := Lib.hid hb
  clear hb
  go_wp2_with fail
  go_ret
  exact ⟨rfl, HB.out⟩
end Go.Proofs.YtlhffojmpaefjaaDoor
