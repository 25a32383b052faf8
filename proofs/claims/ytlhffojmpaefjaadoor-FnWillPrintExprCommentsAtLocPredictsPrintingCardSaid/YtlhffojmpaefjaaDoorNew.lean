/-
  The contract of the printer's making; conditions: none.
-/
import Derived.Test.YtlhffojmpaefjaaDoorAdd
namespace Go.Proofs.YtlhffojmpaefjaaDoor
open Go.RowKit

def pOpts (mw : Bool) : Value := .agg #[Value.nilFunc, Value.map none, Value.map none, Value.map none, Value.pointer none, Value.slice none 0 0, Value.int IntKind.u32 0, Value.int IntKind.u32 0, Value.int IntKind.u32 0, Value.int IntKind.u32 0, Value.int IntKind.u32 0, Value.int IntKind.u32 0, Value.int IntKind.u64 0, Value.int IntKind.i64 0, Value.int IntKind.i64 0, Value.int IntKind.u8 0, Value.bool mw, Value.bool false, Value.bool false, Value.bool false, Value.int IntKind.u8 0, Value.int IntKind.u8 0, Value.bool false, Value.bool false, Value.int IntKind.u8 0]
def pParts (mw : Bool) (m1 m2 : Nat) : List (Nat × Value) := [(12, pOpts mw), (9, .slice none 0 0), (19, .int .i64 0), (5, .map (some m1)), (6, .map (some m2)), (15, .int .i64 (-1)), (16, .int .i64 (-1)), (17, .int .i64 (-1)), (18, .int .i64 (-1)), (20, .int .i64 (-1)), (21, .int .i64 (-1)), (22, .int .i64 (-1)), (23, .int .i64 (-1))]
theorem built78 (mw : Bool) (m1 m2 : Nat) : (Tryd.prog.built 78 (pParts mw m1 m2)).map (fun c => [c[5]?, c[6]?, c[24]?, c[25]?, c[26]?, c[28]?, c[59]?, c[60]?, c[61]?, c[62]?, c[63]?, c[68]?, c[9]?]) = some [some (.map (some m1)), some (.map (some m2)), some (.int .u64 0), some (.int .i64 0), some (.int .i64 0), some (.bool mw), some (.bool false), some (.int .i64 (-1)), some (.int .i64 (-1)), some (.int .i64 (-1)), some (.int .i64 (-1)), some (.int .i64 (-1)), some (.slice none 0 0)] := by kernel_rfl
theorem size78 (mw : Bool) (m1 m2 : Nat) : (Tryd.prog.built 78 (pParts mw m1 m2)).map (·.size) = some 139 := by kernel_rfl
theorem b78 (mw : Bool) (m1 m2 : Nat) : ∃ cells, Tryd.prog.built 78 (pParts mw m1 m2) = some cells ∧ Opt mw m1 m2 cells ∧ cells[9]? = some (.slice none 0 0) := by
  have h := built78 mw m1 m2
  have hs := size78 mw m1 m2
  cases hb : Tryd.prog.built 78 (pParts mw m1 m2) with
  | none => rw [hb] at h; cases h
  | some c =>
    rw [hb] at h hs
    have hs := Option.some.inj hs
    have h := Option.some.inj h
    simp only [List.cons.injEq, and_true] at h
    obtain ⟨h1, h2, h3, h4, h5, h6, h7, h8, h9, ha, hb2, hc, hd⟩ := h
    exact ⟨c, rfl, ⟨hs, h1, h2, h3, h4, h5, h6, h7, h8, h9, ha, hb2, hc⟩, hd⟩
theorem wp_built {P : Program} {o : Oper} {a : Act} {w : World} {K : Act → World → Prop} {Q : Exit → Act → World → Prop} (t : TypeId) (parts : Array (Nat × Operand)) (ho : o.op = .build t parts) (cells : Array Value)
    (hrun : (Instr.build t (parts.map fun (i, x) => (i, a.eval x))).run P w = .ok (.agg cells) w)
    (h : K (a.put o.dst (.agg cells)) w) : o.wp P a w K Q := by
  unfold Oper.wp execOp
  simp only [ho, Sem.run_bind, hrun, Result.andThen_ok]
  exact h

set_option maxHeartbeats 4000000 in
set_option maxRecDepth 100000 in
theorem new_any (mw : Bool) (w : World) : Calls Tryd.prog 6 #[.bool false, .bool mw, .bool false, .int .i64 0, .slice none 0 0] w fun e w' => ∃ g m1 m2, e = .returned (.pointer (some ⟨g, 0, none⟩)) ∧ ST w.heap.size g m1 m2 mw [] (.map []) (.map []) 0 0 w' ∧ Below w.heap.size w w' := by
  obtain ⟨cells, hcb, ho, h9⟩ := b78 mw w.heap.size (w.heap.size + 1)
  have hbd := fun wx => run_build (P := Tryd.prog) wx 78 (pParts mw w.heap.size (w.heap.size + 1)).toArray cells hcb
  have HI := Lib.hid (And.intro ho (And.intro h9 hbd))
  clear hcb ho h9 hbd
  have hmm := @run_makeMap Tryd.prog
  go_enter Tryd.func6, Tryd.ntmps6
  go_wp2_with fail
  rename_i aK
  refine wp_built 78 _ rfl cells (by simp only [List.map_toArray, List.map_cons, List.map_nil]; exact HI.out.2.2 _) ?_
  refine aK _ _ ?_
  clear aK
  go_wp2_with fail
  go_ret
  have hb2 : Below w.heap.size w ((w.alloc (Obj.map #[] 0)).alloc (Obj.map #[] 0)) := ((Below.refl _ _).alloc (Nat.le_refl _) _).alloc (by simp) _
  have hb3 : Below w.heap.size w (((w.alloc (Obj.map #[] 0)).alloc (Obj.map #[] 0)).alloc (Obj.cells cells 78)) := hb2.alloc (by simp; omega) _
  have e1 : (w.alloc (Obj.map #[] 0)).heap.size = w.heap.size + 1 := World.size_alloc _ _
  refine ⟨w.heap.size + 1 + 1, w.heap.size, w.heap.size + 1, rfl, ?_, hb3⟩
  refine ⟨⟨cells, .slice none 0 0, by omega, ?_, HI.out.1, HI.out.2.1, ⟨rfl, .inl ⟨rfl, rfl⟩⟩⟩, ?_, ?_, Nat.le_refl _, by omega, by omega, fun k b hk => by cases hk⟩
  · have := heap_alloc_new ((w.alloc (Obj.map #[] 0)).alloc (Obj.map #[] 0)) (Obj.cells cells 78)
    rwa [World.size_alloc, World.size_alloc] at this
  · exact ((World.ownsMap_made w Tryd.prog 69 RC).alloc _).alloc _
  · have := ((World.ownsMap_made (w.alloc (Obj.map #[] 0)) Tryd.prog 69 (plainElem (H := Unit) Tryd.prog 4))).alloc (Obj.cells cells 78)
    rwa [e1] at this
end Go.Proofs.YtlhffojmpaefjaaDoor
