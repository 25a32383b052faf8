/-
  The contract of zzCheckTest: true where the test is what it should be; conditions: those that it names.
-/
import Derived.Test.YtolpgogmbebmcaaFacts
namespace Go.Proofs.Ytolpgogmbebmcaa
open Go.RowKit

/-- The new part of the test: x, or its negation. -/
def InnerOk (w : World) (wn : Bool) (nx : Value) (nl : Int) : Prop := nl = 10 ∧ ((wn = true ∧ ∃ x, IsNot w 0 nx x 10 ∧ IsIdent w 0 x 2) ∨ (wn = false ∧ IsIdent w 0 nx 2))
def TestOk (w : World) (ht wn : Bool) (T' : Value) (TL' : Int) : Prop :=
  (ht = false ∧ InnerOk w wn T' TL') ∨ (ht = true ∧ TL' = 12 ∧ ∃ e o nx nl, T' = .iface 66 (.pointer (some ⟨e, 0, none⟩)) ∧ Has w e 70 #[o, .int .i32 12, nx, .int .i32 nl, .int .u8 32, .bool false] ∧ IsIdent w 0 o 1 ∧ InnerOk w wn nx nl)
theorem InnerOk.up {w w' : World} {wn : Bool} {nx : Value} {nl : Int} (h : InnerOk w wn nx nl) (hb : Below w.heap.size w w') : InnerOk w' wn nx nl := by
  obtain ⟨h1, ⟨h2, x, h3, h4⟩ | ⟨h2, h3⟩⟩ := h
  · exact ⟨h1, .inl ⟨h2, x, h3.below hb, h4.below hb⟩⟩
  · exact ⟨h1, .inr ⟨h2, h3.below hb⟩⟩
theorem InnerOk.shape {w : World} {wn : Bool} {nx : Value} {nl : Int} (h : InnerOk w wn nx nl) : ∃ T q, nx = .iface T (.pointer (some ⟨q, 0, none⟩)) := by
  obtain ⟨h1, ⟨h2, x, ⟨q, h3, _⟩, h4⟩ | ⟨h2, q, h3, _⟩⟩ := h
  · exact ⟨_, _, h3⟩
  · exact ⟨_, _, h3⟩

def CutInner (w : World) (wn : Bool) (wx : World) : Prop := ∃ nx nl, Pair wx (w.heap.size + 1) 49 nx (.int .i32 nl) ∧ InnerOk wx wn nx nl ∧ Below w.heap.size w wx

set_option maxHeartbeats 4000000 in
set_option maxRecDepth 100000 in
theorem test_yes (ht wn : Bool) (T' : Value) (TL' : Int) (w : World) (hT : TestOk w ht wn T' TL') :
    Calls Try.prog 22 #[.agg #[T', .int .i32 TL'], .bool ht, .bool wn] w fun e w' => e = .returned (.bool true) ∧ Below w.heap.size w w' := by
  obtain ⟨Tq, tq, rfl⟩ : ∃ T q, T' = .iface T (.pointer (some ⟨q, 0, none⟩)) := by
    rcases hT with ⟨_, h⟩ | ⟨_, _, e, _, _, _, h, _⟩
    · exact h.shape
    · exact ⟨_, _, h⟩
  have HT := Lib.hid hT
  clear hT
  go_enter Try.func22, Try.ntmps22
  go_upto_if 11 with fail
  go_cut [] (fun wx => CutInner w wn wx)
  case first =>
    rcases HT.out with ⟨rfl, hi⟩ | ⟨rfl, rfl, e, o, nx, nl, he, hh, ho, hi⟩
    · go_wp2_with fail
      go_meet
      refine ⟨_, _, by simpa using Pair.new (w.alloc _) 49 _ _, hi.up (((Below.refl _ _).alloc (Nat.le_refl _) _).alloc (by simp) _), ((Below.refl _ _).alloc (Nat.le_refl _) _).alloc (by simp) _⟩
    · injection he with he1 he
      injection he with he
      injection he with he
      injection he with he
      subst he1 he
      obtain ⟨Tn, qn, rfl⟩ := hi.shape
      go_wp2_with fail
      refine (binaryOf_yes tq 12 _).mono ?_
      rintro e w2 ⟨rfl, hb2⟩
      have hbw : Below w.heap.size w w2 := (((Below.refl _ _).alloc (Nat.le_refl _) _).alloc (by simp) _).trans (hb2.mono (by simp; omega))
      have p1 : Pair w2 w.heap.size 49 (.iface 66 (.pointer (some ⟨tq, 0, none⟩))) (.int .i32 12) := ((Pair.new w 49 _ _).alloc _).below hb2 (by simp; omega)
      have p2 : Pair w2 (w.heap.size + 1) 49 (.iface 66 (.pointer (some ⟨tq, 0, none⟩))) (.int .i32 12) := by
        have := (Pair.new (w.alloc (.cells #[.iface 66 (.pointer (some ⟨tq, 0, none⟩)), .int .i32 12] 49)) 49 (.iface 66 (.pointer (some ⟨tq, 0, none⟩))) (.int .i32 12)).below hb2 (by simp)
        simpa using this
      have h2 := hh.up hbw
      have c0 := h2.cell 0 rfl
      have c1 := h2.cell 1 rfl
      have c2 := h2.cell 2 rfl
      have c3 := h2.cell 3 rfl
      have c4 := h2.cell 4 rfl
      have d1 := p1.c1
      have HP := Lib.hid (And.intro p1 (And.intro p2 h2))
      have HO := Lib.hid (And.intro ho hi)
      have HW := Lib.hid hbw
      clear p1 p2 h2 hh ho hi hb2 hbw
      go_wp2_with fail
      refine (isIdent_yes 0 o 12 1 _ (HO.out.1.below HW.out)).mono ?_
      rintro e w3 ⟨rfl, hb3⟩
      have p2 := HP.out.2.1.below hb3 HP.out.2.1.lt
      have h3 := HP.out.2.2.up hb3
      have c2' := h3.cell 2 rfl
      have c3' := h3.cell 3 rfl
      have q0 := p2.c0
      have q1 := p2.c1
      have f0 := p2.frozen 0
      have f1 := p2.frozen 1
      have HP2 := Lib.hid p2
      have H3 := Lib.hid hb3
      clear p2 h3 hb3 c0 c1 c2 c3 c4 d1
      go_wp2_with fail
      go_meet
      have hb4 := ((HW.out.trans (H3.out.mono HW.out.size)).setCell (p := ⟨w.heap.size + 1, 0, none⟩) (by show w.heap.size ≤ w.heap.size + 1; omega) (.iface Tn (.pointer (some ⟨qn, 0, none⟩)))).setCell (p := ⟨w.heap.size + 1, 1, none⟩) (by show w.heap.size ≤ w.heap.size + 1; omega) (.int .i32 nl)
      exact ⟨_, _, HP2.out.set _ _, HO.out.2.up hb4, hb4⟩
  case rest =>
    obtain ⟨w1, rfl⟩ : ∃ w1 : World, w1 = wc := ⟨_, rfl⟩
    obtain ⟨nx, nl, hp, hi, hb⟩ := hcut
    have HI := Lib.hid hi
    obtain ⟨rfl, hin⟩ := hi
    have HIN := Lib.hid hin
    have c0 := hp.c0
    have c1 := hp.c1
    have HP := Lib.hid hp
    have HW := Lib.hid hb
    clear hp hb hin
    rcases HIN.out with ⟨rfl, x, hn, hx⟩ | ⟨rfl, hx⟩
    · obtain ⟨u, rfl, _, hul, hu0, hu1, hu2⟩ := hn
      have HX := Lib.hid hx
      clear hx
      go_wp2_with fail
      refine (unaryOf_yes u 10 _).mono ?_
      rintro e w2 ⟨rfl, hb2⟩
      have k0 : w2.cell? ⟨u, 0, none⟩ = some x := by rw [hb2.cell (p := ⟨u, 0, none⟩) hul, hu0]
      have k1 : w2.cell? ⟨u, 1, none⟩ = some (.int .i32 10) := by rw [hb2.cell (p := ⟨u, 1, none⟩) hul, hu1]
      have k2 : w2.cell? ⟨u, 2, none⟩ = some (.int .u8 3) := by rw [hb2.cell (p := ⟨u, 2, none⟩) hul, hu2]
      have d1 := (HP.out.below hb2 HP.out.lt).c1
      have H2 := Lib.hid hb2
      clear hb2 c0 c1
      go_wp2_with fail
      refine (isIdent_yes 0 x 10 2 _ (HX.out.below H2.out)).mono ?_
      rintro e w3 ⟨rfl, hb3⟩
      go_wp2_with fail
      go_ret
      exact ⟨rfl, HW.out.trans ((H2.out.trans (hb3.mono H2.out.size)).mono HW.out.size)⟩
    · go_wp2_with fail
      refine (isIdent_yes 0 nx 10 2 _ hx).mono ?_
      rintro e w3 ⟨rfl, hb3⟩
      go_wp2_with fail
      go_ret
      exact ⟨rfl, HW.out.trans (hb3.mono HW.out.size)⟩

end Go.Proofs.Ytolpgogmbebmcaa
