/-
  The contract of printing the comments at a place; conditions: those that each names.
-/
import Derived.Test.YtlhffojmpaefjaaDoorPrt
import Derived.Deep.RegionLaw
namespace Go.Proofs.YtlhffojmpaefjaaDoor
open Go.RowKit

theorem wp_mu {H : Type} {P : Program} {o : Oper} {a : Act} {w : World} {K : Act → World → Prop} {Q : Exit → Act → World → Prop}
    (m x v : Operand) (t : TypeId) (hop : o.op = Op.mapUpdate t m x v)
    (k e : TypeId) (KL : Go.Maps.Keyed P k) (ht : P.underlying t = some (.map k e)) (R : Value → Option (DataW H × List MemPlace)) (b n : Nat) (D : DataW H)
    (hm : a.eval m = .map (some b)) (hown : w.ownsMap P k R b n D) (hn : n < maxLen) (key val : Value) (kl : Lit) (hx : a.eval x = key) (hv : a.eval v = val) (hkey : keyOf P k key = some kl)
    (d : DataW H) (ps : List MemPlace) (hval : R val = some (d, ps))
    (hK : ∀ w', w'.ownsMap P k R b (n + 1) (D.put kl d) → w.grownBy w' (some b) → K (a.put o.dst undef) w') : o.wp P a w K Q := by
  obtain ⟨w', hrun, r1, r2⟩ := hown.update KL ht hn hkey hval
  unfold Oper.wp
  simp [execOp, hop, hm, hx, hv, hrun, Result.andThen]
  exact hK w' r1 r2
theorem step_mu {H : Type} {P : Program} {ops : Array Oper} {o : Oper} {a : Act} {w : World} {K : Act → World → Prop} {Q : Exit → Act → World → Prop} {E : Prop}
    (hgd : o.guard = none) (m x v : Operand) (t : TypeId) (hop : o.op = Op.mapUpdate t m x v)
    (k e : TypeId) (KL : Go.Maps.Keyed P k) (ht : P.underlying t = some (.map k e)) (R : Value → Option (DataW H × List MemPlace)) (b n : Nat) (D : DataW H)
    (hm : a.eval m = .map (some b)) (hown : w.ownsMap P k R b n D) (hn : n < maxLen) (key val : Value) (kl : Lit) (hx : a.eval x = key) (hv : a.eval v = val) (hkey : keyOf P k key = some kl)
    (d : DataW H) (ps : List MemPlace) (hval : R val = some (d, ps))
    (hK : ∀ w', w'.ownsMap P k R b (n + 1) (D.put kl d) → w.grownBy w' (some b) → K (a.put o.dst undef) w') : if Region.wanted o (yielded ops a.tmps) = true then o.wp P a w K Q else E := by
  rw [if_pos (show Region.wanted o (yielded ops a.tmps) = true by simp [Region.wanted, hgd])]
  exact wp_mu m x v t hop k e KL ht R b n D hm hown hn key val kl hx hv hkey d ps hval hK

def noteL : List UInt8 := noteS.data.toList ++ [10]

set_option maxHeartbeats 2000000 in
set_option maxRecDepth 100000 in
theorem com_any (B g m1 m2 : Nat) (l : List UInt8) (C P : DataW Unit) (nc np : Nat) (w : World) (h : ST B g m1 m2 false l C P nc np w) (hlen : l.length ≤ 4096) (hBw : B ≤ w.heap.size) :
    Calls Tryd.prog 20 #[.pointer (some ⟨g, 0, none⟩), .string noteS] w fun e w' => e = .returned (.tuple #[]) ∧ ST B g m1 m2 false (l ++ noteL) C P nc np w' ∧ Below B w w' ∧ Lk w w' := by
  obtain ⟨cs, v, hB, hg, ho, h9, hown⟩ := h.ps
  have c24 : w.cell? ⟨g, 24, none⟩ = some (.int .u64 0) := (Lib.cell_of_heap hg 24).trans ho.c24
  have hs : noteS.size = 7 := by decide
  have HP := Lib.hid (print_any B g m1 m2 false l C P nc np noteS w h (by omega) hBw)
  have HP2 := Lib.hid (fun (w' : World) (h' : ST B g m1 m2 false (l ++ noteS.data.toList) C P nc np w') (hB' : B ≤ w'.heap.size) => print_any B g m1 m2 false (l ++ noteS.data.toList) C P nc np ⟨#[10]⟩ w' h' (by
    rw [List.length_append]
    have h1 : noteS.data.toList.length = 7 := by decide
    have h2 : (⟨#[10]⟩ : ByteArray).size = 1 := by decide
    omega) hB')
  clear ho h9 hown hg h hs
  go_enter Tryd.func20, Tryd.ntmps20
  go_wp2_with (go_at_call 28; go_in)
  refine (esc_note _).mono ?_
  rintro e w' ⟨rfl, rfl⟩
  go_wp2_with fail
  refine (pfx_note _).mono ?_
  rintro e w' ⟨rfl, rfl⟩
  go_wp2_with fail
  refine HP.out.mono ?_
  rintro e w1 ⟨rfl, h1, hb1, hk1⟩
  have H1 := Lib.hid (And.intro h1 (And.intro hb1 hk1))
  clear h1 hb1 hk1
  go_wp2_with fail
  refine (HP2.out w1 H1.out.1 (Nat.le_trans hBw H1.out.2.1.size)).mono ?_
  rintro e w2 ⟨rfl, h2, hb2, hk2⟩
  have H2 := Lib.hid (And.intro h2 (And.intro hb2 hk2))
  clear h2 hb2 hk2
  go_wp2_with fail
  go_end0
  refine ⟨rfl, ?_, H1.out.2.1.trans H2.out.2.1, fun k cs fr hk => H2.out.2.2 k cs fr (H1.out.2.2 k cs fr hk)⟩
  have := H2.out.1
  rw [List.append_assoc] at this
  exact this
end Go.Proofs.YtlhffojmpaefjaaDoor
