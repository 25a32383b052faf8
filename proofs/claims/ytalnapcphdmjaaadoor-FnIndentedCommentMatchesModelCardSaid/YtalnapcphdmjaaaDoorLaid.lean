/-
  What the rows' listed variables give the walks: unicode.asciiFold's cells and the entries of unicode.caseOrbit that the searches meet; conditions: the listed variables read as listed.
-/
import Derived.Test.YtalnapcphdmjaaaDoorFold
import Derived.ProofKit
import Derived.OpenShut
import Derived.LaidMore
import Derived.Lay
import Derived.Lib.LaidTab
import Derived.Stop.Joined
namespace Go.Proofs.YtalnapcphdmjaaaDoor
open Go.ChangeShapes Go.WideShapes Go.ChangeAt Go.RowKit

noncomputable def laidL : List (String × DataW Unit) := Rows.fnIndentedCommentNeverEmitsClosingStyleTagRow.laid

theorem tFold : (Tryd.prog.globals[0]?).map (·.type) = some 89 := by kernel_rfl
theorem tOrb : (Tryd.prog.globals[1]?).map (·.type) = some 90 := by kernel_rfl
theorem gFold : Tryd.prog.globalNamed "unicode.asciiFold" = some 0 := by kernel_rfl
theorem gOrb : Tryd.prog.globalNamed "unicode.caseOrbit" = some 1 := by kernel_rfl
theorem foldData : (Rows.laid_unicode_asciiFold : DataW Unit) = Lib.tabData .u16 ((List.range 128).map fun c => (af c : Int)) := by kernel_rfl
theorem c45 : Tryd.prog.cellsOf 40 = 1 := by kernel_rfl
theorem c46 : Tryd.prog.cellsOf 89 = 128 := by kernel_rfl
theorem c50 : Tryd.prog.cellsOf 93 = 2 := by kernel_rfl

set_option maxRecDepth 100000 in
/-- An entry of two 16-bit numbers. -/
theorem entry {W : World} {base : Nat} {sp : Nat → Bool} {held : Bool} {n : Nat} {cs : List Value} {x y : Int} {q : List MemPlace}
    (h : DataW.trod (fun _ => ()) Tryd.prog W base sp held n 93 cs = some (.agg [.lit (.int .u16 x), .lit (.int .u16 y)], q)) : cs = [.int .u16 x, .int .u16 y] := by
  obtain ⟨xs, m, _, hx, hlen, hxs, hel⟩ := DataW.trod_struct Tryd.underlying93 h
  rw [c50] at hlen
  have e := (DataW.agg.inj (Prod.mk.inj hx).1)
  have h0 : DataW.trod (fun _ => ()) Tryd.prog W base sp held m 40 ((cs.drop 0).take (Tryd.prog.cellsOf 40)) = xs[0]? := hel 0 _ rfl
  have h1 : DataW.trod (fun _ => ()) Tryd.prog W base sp held m 40 ((cs.drop 1).take (Tryd.prog.cellsOf 40)) = xs[1]? := hel 1 _ rfl
  rw [c45] at h0 h1
  match cs, hlen, xs, hxs, e, h0, h1 with
  | [c, d], _, [x0, x1], _, e, h0, h1 =>
    simp only [List.map_cons, List.map_nil, List.cons.injEq, and_true] at e
    obtain ⟨z0, e1, e2, _⟩ := DataW.trod_int Tryd.underlying40 (show DataW.trod _ Tryd.prog W base sp held m 40 [c] = some x0 from h0)
    obtain ⟨z1, e3, e4, _⟩ := DataW.trod_int Tryd.underlying40 (show DataW.trod _ Tryd.prog W base sp held m 40 [d] = some x1 from h1)
    rw [e2, e4] at e
    simp at e e1 e3
    rw [e1, e3, e.1, e.2]

theorem cells_two {W : World} {base : Nat} {a : Addr} {u v : Value} (h : W.cells? base a 2 = some [u, v]) : W.cell? a = some u ∧ W.cell? (a.add 1) = some v := by
  unfold World.cells? at h
  split at h
  · have e0 : a.add 0 = a := by simp [Addr.add]
    simp only [List.range_succ, List.range_zero, List.nil_append, List.cons_append, List.mapM_cons, List.mapM_nil, e0] at h
    cases h0 : W.cell? a with
    | none => simp [h0] at h
    | some c =>
      cases h1 : W.cell? (a.add 1) with
      | none => simp [h0, h1] at h
      | some d => simp [h0, h1] at h; rw [h.1, h.2]; exact ⟨rfl, rfl⟩
  · cases h

set_option maxRecDepth 100000 in
theorem tabs_of {W : World} (h : laidMetH Tryd.prog laidL W) : Tabs W := by
  rw [MakeChecks.laidMetH_plain _ _ _ (by kernel_rfl)] at h
  obtain ⟨ps, ⟨_, _, _, _, _, _, _, _, _, _, ⟨g0, t0, cs0, f0, p0, q0, hg0, ht0, hv0, hd0, ⟨g1, t1, cs1, f1, p1, q1, hg1, ht1, hv1, hd1, _, _⟩, _⟩, _⟩, _, _⟩ := h
  obtain rfl := Option.some.inj (gFold.symm.trans hg0)
  obtain rfl := Option.some.inj (gOrb.symm.trans hg1)
  obtain rfl := Option.some.inj (tFold.symm.trans ht0)
  obtain rfl := Option.some.inj (tOrb.symm.trans ht1)
  rw [foldData] at hd0
  have hc0 := Lib.cells_of_tab Tryd.underlying89 Tryd.underlying40 c45 c46 hd0
  refine ⟨fun c hc => ?_, ?_⟩
  · rw [World.var?_cell hg0 hv0 c, ← Array.getElem?_toList, hc0, List.getElem?_map, List.getElem?_map, List.getElem?_range hc]
    rfl
  · have hcell := World.var?_cell hg1 hv1 0
    rcases DataW.trod_slice Tryd.underlying90 hd1 with ⟨_, hx⟩ | ⟨a, len, cap, elems, rest, n, _, hcs, hx, _, hl, _, hlen, hel, _⟩
    · exact absurd (Prod.mk.inj hx).1 (by unfold Rows.laid_unicode_caseOrbit; intro e; cases e)
    · rw [← Array.getElem?_toList, hcs] at hcell
      obtain ⟨hx1, _⟩ := Prod.mk.inj hx
      have hx2 : elems.map (·.1) = match (Rows.laid_unicode_caseOrbit : DataW Unit) with | .slice l _ => l | _ => [] := by rw [hx1]
      have hl94 : len = 94 := by
        have := congrArg List.length hx2
        rw [List.length_map, hlen] at this
        exact this.trans (by kernel_rfl)
      subst hl94
      have at_ : ∀ (i : Nat) (x y : Int), i < 94 → (match (Rows.laid_unicode_caseOrbit : DataW Unit) with | .slice l _ => l | _ => [])[i]? = some (.agg [.lit (.int .u16 x), .lit (.int .u16 y)]) → W.cell? (a.add (i * 2)) = some (.int .u16 x) ∧ W.cell? ((a.add (i * 2)).add 1) = some (.int .u16 y) := by
        intro i x y hi hd
        have hE := hel i hi
        rw [c50] at hE
        rw [← hx2, List.getElem?_map] at hd
        cases hy : elems[i]? with
        | none => rw [hy] at hd; cases hd
        | some z =>
          rw [hy] at hE hd
          obtain ⟨c1, hc1, hy1⟩ := Option.bind_eq_some_iff.1 hE
          have e1 : z.1 = .agg [.lit (.int .u16 x), .lit (.int .u16 y)] := by simpa using hd
          have e2 : z = (.agg [.lit (.int .u16 x), .lit (.int .u16 y)], z.2) := by rw [← e1]
          rw [e2] at hy1
          rw [entry hy1] at hc1
          exact cells_two hc1
      obtain ⟨q, o, sp⟩ := a
      refine ⟨q, o, sp, cap, hcell, ?_, ?_, ?_⟩
      · intro x hx
        unfold orbAt at hx
        simp only [List.mem_cons, List.mem_nil_iff, or_false] at hx
        rcases hx with rfl | rfl | rfl | rfl | rfl | rfl | rfl | rfl | rfl | rfl | rfl | rfl | rfl
        · exact (at_ 47 966 981 (by decide) (by kernel_rfl)).1
        · exact (at_ 71 7296 1042 (by decide) (by kernel_rfl)).1
        · exact (at_ 83 7838 223 (by decide) (by kernel_rfl)).1
        · exact (at_ 89 8491 197 (by decide) (by kernel_rfl)).1
        · exact (at_ 86 8163 944 (by decide) (by kernel_rfl)).1
        · exact (at_ 88 8490 75 (by decide) (by kernel_rfl)).1
        · exact (at_ 87 8486 937 (by decide) (by kernel_rfl)).1
        · exact (at_ 23 837 921 (by decide) (by kernel_rfl)).1
        · exact (at_ 11 452 453 (by decide) (by kernel_rfl)).1
        · exact (at_ 5 197 229 (by decide) (by kernel_rfl)).1
        · exact (at_ 8 304 304 (by decide) (by kernel_rfl)).1
        · exact (at_ 10 383 83 (by decide) (by kernel_rfl)).1
        · exact (at_ 9 305 305 (by decide) (by kernel_rfl)).1
      · exact (at_ 88 8490 75 (by decide) (by kernel_rfl)).2
      · exact (at_ 10 383 83 (by decide) (by kernel_rfl)).2

theorem laid_met (os : Os) (args : Array Value) : laidMetH Tryd.prog laidL ((World.laidAll Tryd.prog os laidL).forCall (fun _ _ => 0) ⟨#[], args, []⟩).memory := by
  rw [MakeChecks.laidMetH_plain _ _ _ (by kernel_rfl)]; exact laidMet_laidAll _ (by kernel_rfl) (by kernel_rfl)

end Go.Proofs.YtalnapcphdmjaaaDoor
