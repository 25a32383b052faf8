/-
  The printer's two maps as data: what a key reads as, what a look-up gives; conditions: those that each names.
-/
import Derived.Test.YtlhffojmpaefjaaDoorStr
import Derived.Test.YtlhffojmpaefjaaDoorRows
import Derived.Maps.Own
import Derived.Maps.Views
import Derived.DeepKeys4
import Derived.WalkKit
namespace Go.Proofs.YtlhffojmpaefjaaDoor
open Go.RowKit
open Go.Maps (Keyed)

theorem laidOut : laidOutB Tryd.prog = true := by kernel_rfl
theorem locK : Keyed Tryd.prog 69 := Keyed.of_law (deep_law_laid laidOut (m := 2) (by omega) (of_decide_eq_true (by kernel_rfl)) (by kernel_rfl) (by kernel_rfl))
/-- A place as a key. -/
def loc (x : Int) : Value := .agg #[.int .i32 x]
theorem key_some {x : Int} (hx : (Lit.int .i32 x).wf = true) : ∃ l, keyOf Tryd.prog 69 (loc x) = some l := by
  have h1 : Tryd.prog.keyType 69 = true := by kernel_rfl
  have h2 : (loc x).formed Tryd.prog 69 = true := by kernel_rfl
  have h3 : Tryd.prog.cellsOf 69 = 1 := by kernel_rfl
  have h4 : Tryd.prog.cellsOf 21 = 1 := by kernel_rfl
  obtain ⟨n, hn⟩ : ∃ n, Tryd.prog.types.size = n + 1 := ⟨Tryd.prog.types.size - 1, by have h : 0 < Tryd.prog.types.size := of_decide_eq_true (by kernel_rfl); omega⟩
  have h5 : Tryd.prog.keyLits (Tryd.prog.types.size + 1) 69 (loc x).cells.toList = some [.int .i32 x] := by
    rw [hn]
    unfold Program.keyLits
    rw [Tryd.underlying69]
    simp [loc, Value.cells, h3, h4, Program.keyLits, Tryd.underlying21, hx]
  unfold keyOf
  rw [h5, h1, h2, Tryd.underlying69]
  exact ⟨_, rfl⟩
noncomputable def kx (x : Int) : Lit := (keyOf Tryd.prog 69 (loc x)).getD .nil
theorem key_kx {x : Int} (hx : (Lit.int .i32 x).wf = true) : keyOf Tryd.prog 69 (loc x) = some (kx x) := by
  obtain ⟨l, h⟩ := key_some hx
  unfold kx
  rw [h]
  rfl
theorem lit_of {v : Value} {l : Lit} (h : keyOf Tryd.prog 69 v = some l) : WideAt.IsKeyLit l := Keyed.key locK h
theorem kx_lit {x : Int} {kl : Lit} (hx : (Lit.int .i32 x).wf = true) (hk : kx x = kl) : WideAt.IsKeyLit kl := by
  have h := key_kx hx
  rw [hk] at h
  exact lit_of h
theorem kx_ne {x y : Int} (hx : (Lit.int .i32 x).wf = true) (hy : (Lit.int .i32 y).wf = true) (h : x ≠ y) : kx x ≠ kx y := fun e => by
  have h1 := key_kx hx
  have h2 := key_kx hy
  rw [← e] at h2
  have := locK.inj h1 h2
  unfold loc at this
  simp at this
  exact h this

/-- A list of comments as it reads: by its block. -/
def RC (v : Value) : Option (DataW Unit × List MemPlace) := match v with
  | .slice none 0 0 => some (.nil, [])
  | .slice (some ⟨b, 0, none⟩) 1 1 => some (.lit (.int .i64 b), [])
  | _ => none
def vC (d : DataW Unit) : Value := match d with
  | .lit (.int .i64 b) => .slice (some ⟨b.toNat, 0, none⟩) 1 1
  | _ => .slice none 0 0
theorem RC_val {v : Value} {d : DataW Unit} {ps : List MemPlace} (h : RC v = some (d, ps)) : v = vC d ∧ (d = .nil ∨ ∃ b : Nat, d = .lit (.int .i64 b)) := by
  unfold RC at h
  split at h
  · cases h
    exact ⟨rfl, .inl rfl⟩
  · cases h
    exact ⟨by simp [vC], .inr ⟨_, rfl⟩⟩
  · cases h
theorem zero62 (w : World) : (zeroValue 62).run Tryd.prog w = .ok (.slice none 0 0) w := by kernel_rfl
theorem zero4 (w : World) : (zeroValue 4).run Tryd.prog w = .ok (.bool false) w := by kernel_rfl
/-- The map of comments. -/
def MC (w : World) (b n : Nat) (C : DataW Unit) : Prop := w.ownsMap Tryd.prog 69 RC b n C
/-- The map of what is printed. -/
def MP (w : World) (b n : Nat) (P : DataW Unit) : Prop := w.ownsMap Tryd.prog 69 (plainElem Tryd.prog 4) b n P
noncomputable def hasC (C : DataW Unit) (x : Int) : DataW Unit := C.atKey (kx x) .nil
def bitOf (d : DataW Unit) : Bool := match d with
  | .lit (.bool b) => b
  | _ => false
noncomputable def bP (P : DataW Unit) (x : Int) : Bool := bitOf (P.atKey (kx x) (.lit (.bool false)))
theorem MC.run {w : World} {b n : Nat} {C : DataW Unit} (h : MC w b n C) {x : Int} (hx : (Lit.int .i32 x).wf = true) :
    (Instr.lookup 48 (.map (some b)) (loc x) false).run Tryd.prog w = .ok (vC (hasC C x)) w ∧ (hasC C x = .nil ∨ ∃ b : Nat, hasC C x = .lit (.int .i64 b)) := by
  obtain ⟨v, ps, hr, hv⟩ := World.ownsMap.lookup h locK Tryd.underlying48 (zero62 w) (zd := .nil) (zp := []) rfl (key_kx hx)
  obtain ⟨rfl, h2⟩ := RC_val hv
  exact ⟨hr, h2⟩
theorem RP_val {v : Value} {d : DataW Unit} {ps : List MemPlace} (h : plainElem Tryd.prog 4 v = some (d, ps)) : v = .bool (bitOf d) := by
  unfold plainElem at h
  split at h
  · rename_i x _
    cases h
    rfl
  · rename_i q _ _ hq
    rw [Tryd.underlying4] at hq
    cases hq
  · rename_i _ hq
    rw [Tryd.underlying4] at hq
    cases hq
  · cases h
theorem MP.run {w : World} {b n : Nat} {P : DataW Unit} (h : MP w b n P) {x : Int} (hx : (Lit.int .i32 x).wf = true) :
    (Instr.lookup 49 (.map (some b)) (loc x) false).run Tryd.prog w = .ok (.bool (bP P x)) w := by
  obtain ⟨v, ps, hr, hv⟩ := World.ownsMap.lookup h locK Tryd.underlying49 (zero4 w) (zd := .lit (.bool false)) (zp := []) (plainElem_bool Tryd.underlying4 false) (key_kx hx)
  obtain rfl := RP_val hv
  exact hr
theorem MC.up {w w' : World} {b n : Nat} {C : DataW Unit} (h : MC w b n C) (hh : w'.heap[b]? = w.heap[b]?) : MC w' b n C := by
  obtain ⟨es, clock, hb, r⟩ := h
  exact ⟨es, clock, hh.trans hb, r⟩
theorem MP.up {w w' : World} {b n : Nat} {C : DataW Unit} (h : MP w b n C) (hh : w'.heap[b]? = w.heap[b]?) : MP w' b n C := by
  obtain ⟨es, clock, hb, r⟩ := h
  exact ⟨es, clock, hh.trans hb, r⟩
theorem MC.at {w : World} {b n : Nat} {C : DataW Unit} (h : MC w b n C) : ∃ es clock, w.heap[b]? = some (.map es clock) := by
  obtain ⟨es, clock, hb, _⟩ := h
  exact ⟨es, clock, hb⟩
theorem MP.at {w : World} {b n : Nat} {C : DataW Unit} (h : MP w b n C) : ∃ es clock, w.heap[b]? = some (.map es clock) := by
  obtain ⟨es, clock, hb, _⟩ := h
  exact ⟨es, clock, hb⟩
theorem MC.isMap {w : World} {b n : Nat} {C : DataW Unit} (h : MC w b n C) : Go.Maps.IsMap C := by
  obtain ⟨es, clock, _, _, _, hD⟩ := h
  exact ⟨_, hD⟩
end Go.Proofs.YtlhffojmpaefjaaDoor
