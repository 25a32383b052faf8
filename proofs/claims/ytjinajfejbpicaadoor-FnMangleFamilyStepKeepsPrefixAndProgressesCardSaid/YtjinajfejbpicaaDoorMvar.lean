/-
  The two named maps read on as they read, in every later world that keeps what lay below; conditions: they read at all.
-/
import Derived.Test.YtjinajfejbpicaaDoorLaid
import Derived.WalkSmall
import Derived.Carry
import Derived.ChangeOld
import Derived.ChangeVars
namespace Go.Proofs.YtjinajfejbpicaaDoor
open Go.ChangeShapes Go.WideShapes Go.ChangeAt Go.RowKit

theorem laidOutP : laidOutB Tryd.prog = true := by kernel_rfl
theorem gG : Tryd.prog.globalNamed gName = some 0 := by kernel_rfl
theorem gW : Tryd.prog.globalNamed wName = some 1 := by kernel_rfl
theorem tG : (Tryd.prog.globals[0]?).map (·.type) = some 34 := by kernel_rfl
theorem tW : (Tryd.prog.globals[1]?).map (·.type) = some 34 := by kernel_rfl

theorem map_up {H : Type} {enc : TypeId × Value → H} {W W' : World} {f : Nat} {cs : Array Value} {d : DataW H} {p : List MemPlace} (h : DataW.trod enc Tryd.prog W 0 (fun _ => true) true f 34 cs.toList = some (d, p)) (hb : Below W.heap.size W W') :
    ∃ f', DataW.trod enc Tryd.prog W' 0 (fun b => decide (b < W.heap.size)) true f' 34 cs.toList = some (d, p) := by
  have key : ∃ v : Value, cs.toList = v.cells.toList := by
    rcases WideElems.open_map Tryd.underlying34 h with ⟨h1, _⟩ | ⟨b, es, clock, n, _, h1, _⟩
    · exact ⟨.map none, by rw [h1]; rfl⟩
    · exact ⟨.map (some b), by rw [h1]; rfl⟩
  obtain ⟨v, hv⟩ := key
  rw [hv] at h ⊢
  exact Below.trod laidOutP (by kernel_rfl) (of_decide_eq_true (by kernel_rfl)) ⟨f, h⟩ hb (DataW.trod_lt f _ _ _ h)

theorem vars_up {H : Type} {enc : TypeId × Value → H} {W : World} {gs : List (DataW H)} {q : List MemPlace} (h : DataW.TrodVars enc Tryd.prog W (fun _ => true) [gName, wName] gs q) :
    ∃ d0 d1, gs = [d0, d1] ∧ ∀ W', Below W.heap.size W W' → ∃ pv, DataW.TrodVars enc Tryd.prog W' (fun b => decide (b < W.heap.size)) [gName, wName] [d0, d1] pv := by
  obtain ⟨g0, t0, cs0, f0, d0, p0, g1, t1, cs1, f1, d1, p1, rfl, hg0, ht0, hv0, hd0, hg1, ht1, hv1, hd1, rfl⟩ := trodVars_two h
  obtain rfl := Option.some.inj (gG.symm.trans hg0)
  obtain rfl := Option.some.inj (gW.symm.trans hg1)
  obtain rfl := Option.some.inj (tG.symm.trans ht0)
  obtain rfl := Option.some.inj (tW.symm.trans ht1)
  refine ⟨d0, d1, rfl, fun W' hb => ?_⟩
  obtain ⟨f0', hd0'⟩ := map_up hd0 hb
  obtain ⟨f1', hd1'⟩ := map_up hd1 hb
  have lt : ∀ {g : Nat} {n : String} {cs : Array Value}, Tryd.prog.globalNamed n = some g → W.var? Tryd.prog n = some cs → g < W.heap.size := by
    intro g n cs hg hv
    unfold World.var? at hv
    rw [hg, Option.bind_some] at hv
    cases hh : W.heap[g]? with
    | none => simp [hh] at hv
    | some o => exact (Array.getElem?_eq_some_iff.1 hh).1
  exact ⟨_, 0, 34, cs0, f0', p0, _, gG, tG, var?_below hb gG (lt gG hv0) hv0, hd0', ⟨1, 34, cs1, f1', p1, [], gW, tW, var?_below hb gW (lt gW hv1) hv1, hd1', rfl, rfl⟩, rfl⟩
end Go.Proofs.YtjinajfejbpicaaDoor
