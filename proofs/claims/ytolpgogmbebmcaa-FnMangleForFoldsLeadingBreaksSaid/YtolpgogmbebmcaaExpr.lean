/-
  Expressions in memory: identifiers, negations, conjunctions; the contracts of the shims over them and of js_ast.Not at an identifier; conditions: those that each names.
-/
import Derived.Test.YtolpgogmbebmcaaDrain
namespace Go.Proofs.Ytolpgogmbebmcaa
open Go.RowKit

theorem te66 (T : TypeId) (v : Value) (w : World) : (Instr.typeAssert (.iface T v) 47 66 true).run Try.prog w = .ok (if T = 66 then .tuple #[v, .bool true] else .tuple #[.pointer none, .bool false]) w := run_assert_ptr (P := Try.prog) w T 47 66 _ v Try.underlying66 (Try.zeroValue66 w)
theorem te71 (T : TypeId) (v : Value) (w : World) : (Instr.typeAssert (.iface T v) 47 71 true).run Try.prog w = .ok (if T = 71 then .tuple #[v, .bool true] else .tuple #[.pointer none, .bool false]) w := run_assert_ptr (P := Try.prog) w T 47 71 _ v Try.underlying71 (Try.zeroValue71 w)
theorem te150 (T : TypeId) (v : Value) (w : World) : (Instr.typeAssert (.iface T v) 47 150 true).run Try.prog w = .ok (if T = 150 then .tuple #[v, .bool true] else .tuple #[.pointer none, .bool false]) w := run_assert_ptr (P := Try.prog) w T 47 150 _ v Try.underlying150 (Try.zeroValue150 w)
theorem te162 (T : TypeId) (v : Value) (w : World) : (Instr.typeAssert (.iface T v) 47 162 true).run Try.prog w = .ok (if T = 162 then .tuple #[v, .bool true] else .tuple #[.pointer none, .bool false]) w := run_assert_ptr (P := Try.prog) w T 47 162 _ v Try.underlying162 (Try.zeroValue162 w)
theorem te166 (T : TypeId) (v : Value) (w : World) : (Instr.typeAssert (.iface T v) 47 166 true).run Try.prog w = .ok (if T = 166 then .tuple #[v, .bool true] else .tuple #[.pointer none, .bool false]) w := run_assert_ptr (P := Try.prog) w T 47 166 _ v Try.underlying166 (Try.zeroValue166 w)
theorem te169 (T : TypeId) (v : Value) (w : World) : (Instr.typeAssert (.iface T v) 47 169 true).run Try.prog w = .ok (if T = 169 then .tuple #[v, .bool true] else .tuple #[.pointer none, .bool false]) w := run_assert_ptr (P := Try.prog) w T 47 169 _ v Try.underlying169 (Try.zeroValue169 w)
theorem te170 (T : TypeId) (v : Value) (w : World) : (Instr.typeAssert (.iface T v) 47 170 true).run Try.prog w = .ok (if T = 170 then .tuple #[v, .bool true] else .tuple #[.pointer none, .bool false]) w := run_assert_ptr (P := Try.prog) w T 47 170 _ v Try.underlying170 (Try.zeroValue170 w)
theorem te171 (T : TypeId) (v : Value) (w : World) : (Instr.typeAssert (.iface T v) 47 171 true).run Try.prog w = .ok (if T = 171 then .tuple #[v, .bool true] else .tuple #[.pointer none, .bool false]) w := run_assert_ptr (P := Try.prog) w T 47 171 _ v Try.underlying171 (Try.zeroValue171 w)
theorem te174 (T : TypeId) (v : Value) (w : World) : (Instr.typeAssert (.iface T v) 47 174 true).run Try.prog w = .ok (if T = 174 then .tuple #[v, .bool true] else .tuple #[.pointer none, .bool false]) w := run_assert_ptr (P := Try.prog) w T 47 174 _ v Try.underlying174 (Try.zeroValue174 w)
theorem te179 (T : TypeId) (v : Value) (w : World) : (Instr.typeAssert (.iface T v) 47 179 true).run Try.prog w = .ok (if T = 179 then .tuple #[v, .bool true] else .tuple #[.pointer none, .bool false]) w := run_assert_ptr (P := Try.prog) w T 47 179 _ v Try.underlying179 (Try.zeroValue179 w)
theorem te184 (T : TypeId) (v : Value) (w : World) : (Instr.typeAssert (.iface T v) 47 184 true).run Try.prog w = .ok (if T = 184 then .tuple #[v, .bool true] else .tuple #[.pointer none, .bool false]) w := run_assert_ptr (P := Try.prog) w T 47 184 _ v Try.underlying184 (Try.zeroValue184 w)
theorem te187 (T : TypeId) (v : Value) (w : World) : (Instr.typeAssert (.iface T v) 47 187 true).run Try.prog w = .ok (if T = 187 then .tuple #[v, .bool true] else .tuple #[.pointer none, .bool false]) w := run_assert_ptr (P := Try.prog) w T 47 187 _ v Try.underlying187 (Try.zeroValue187 w)
theorem te188 (T : TypeId) (v : Value) (w : World) : (Instr.typeAssert (.iface T v) 47 188 true).run Try.prog w = .ok (if T = 188 then .tuple #[v, .bool true] else .tuple #[.pointer none, .bool false]) w := run_assert_ptr (P := Try.prog) w T 47 188 _ v Try.underlying188 (Try.zeroValue188 w)
theorem te189 (T : TypeId) (v : Value) (w : World) : (Instr.typeAssert (.iface T v) 47 189 true).run Try.prog w = .ok (if T = 189 then .tuple #[v, .bool true] else .tuple #[.pointer none, .bool false]) w := run_assert_ptr (P := Try.prog) w T 47 189 _ v Try.underlying189 (Try.zeroValue189 w)
theorem tz66 (w : World) : (Instr.typeAssert .nilIface 47 66 true).run Try.prog w = .ok (.tuple #[.pointer none, .bool false]) w := run_assert_nil (P := Try.prog) w 47 66 _ Try.underlying66 (Try.zeroValue66 w)
theorem tz71 (w : World) : (Instr.typeAssert .nilIface 47 71 true).run Try.prog w = .ok (.tuple #[.pointer none, .bool false]) w := run_assert_nil (P := Try.prog) w 47 71 _ Try.underlying71 (Try.zeroValue71 w)
theorem tz150 (w : World) : (Instr.typeAssert .nilIface 47 150 true).run Try.prog w = .ok (.tuple #[.pointer none, .bool false]) w := run_assert_nil (P := Try.prog) w 47 150 _ Try.underlying150 (Try.zeroValue150 w)

theorem Pair.set0 {w : World} {g : Nat} {t : TypeId} {a b : Value} (h : Pair w g t a b) (x : Value) : Pair (w.setCell ⟨g, 0, none⟩ x) g t x b := by
  unfold Pair at h ⊢
  simp [World.setCell, Array.getElem?_modify, h]
/-- Block q holds these cells. -/
def Has (w : World) (q : Nat) (t : TypeId) (cs : Array Value) : Prop := w.heap[q]? = some (.cells cs t (0, 0))
section
variable {w w' : World} {q : Nat} {t : TypeId} {cs : Array Value}
theorem Has.lt (h : Has w q t cs) : q < w.heap.size := (Array.getElem?_eq_some_iff.1 h).1
theorem Has.cell (h : Has w q t cs) (i : Nat) {u : Value} (hi : cs[i]? = some u) : w.cell? ⟨q, i, none⟩ = some u := by rw [cell_of_row w q i _ t (0, 0) h]; exact hi
theorem Has.frozen (h : Has w q t cs) (i : Nat) : w.frozen? ⟨q, i, none⟩ = false := by unfold Has at h; simp [World.frozen?, h]
theorem Has.below {B : Nat} (h : Has w q t cs) (hb : Below B w w') (hg : q < B) : Has w' q t cs := (hb.block q hg).trans h
theorem Has.up (h : Has w q t cs) (hb : Below w.heap.size w w') : Has w' q t cs := h.below hb h.lt
theorem Has.alloc (h : Has w q t cs) (o : Obj) : Has (w.alloc o) q t cs := (Below.heap_alloc w o q h.lt).trans h
theorem Has.new (w : World) (t : TypeId) (cs : Array Value) {n : Nat} (hn : w.heap.size = n) : Has (w.alloc (.cells cs t)) n t cs := by subst hn; exact heap_alloc_new w _
theorem Has.far (h : Has w q t cs) {p : Addr} (hp : q ≠ p.block) (u : Value) : Has (w.setCell p u) q t cs := (Below.heap_setCell w p u q hp).trans h
theorem Has.same (h : Has w q t cs) (he : w'.heap[q]? = w.heap[q]?) : Has w' q t cs := he.trans h
end

/-- An identifier's data. -/
def IsIdent (w : World) (B : Nat) (v : Value) (ref : Int) : Prop := ∃ q, v = .iface 150 (.pointer (some ⟨q, 0, none⟩)) ∧ B ≤ q ∧ w.cell? ⟨q, 1, none⟩ = some (.int .u32 ref)
theorem IsIdent.below {w w' : World} {B : Nat} {v : Value} {ref : Int} (h : IsIdent w B v ref) (hb : Below w.heap.size w w') : IsIdent w' B v ref := by
  obtain ⟨q, h1, h2, h3⟩ := h
  exact ⟨q, h1, h2, by rw [hb.cell (p := ⟨q, 1, none⟩) (World.block_lt_of_cell? w _ h3), h3]⟩

set_option maxHeartbeats 1000000 in
set_option maxRecDepth 100000 in
theorem ident_any (loc ref : Int) (w : World) : Calls Try.prog 18 #[.int .i32 loc, .int .u32 ref] w fun e w' => ∃ v, e = .returned (.agg #[v, .int .i32 loc]) ∧ IsIdent w' w.heap.size v ref ∧ Below w.heap.size w w' := by
  go_enter Try.func18, Try.ntmps18
  go_wp2
  refine bodyPost_ret (v := .agg #[.iface 150 (.pointer (some ⟨w.heap.size + 1, 0, none⟩)), .int .i32 loc]) (by simp [results, Try.results18, go_sem]) rfl ⟨_, rfl, ⟨_, rfl, by omega, ?_⟩, ?_⟩
  · go_simp
  · exact ((Below.refl _ _).alloc (Nat.le_refl _) _).alloc (by simp) _

set_option maxHeartbeats 1000000 in
set_option maxRecDepth 100000 in
theorem identOf_yes (q : Nat) (l : Int) (w : World) : Calls Try.prog 28 #[.agg #[.iface 150 (.pointer (some ⟨q, 0, none⟩)), .int .i32 l]] w fun e w' => e = .returned (.pointer (some ⟨q, 0, none⟩)) ∧ Below w.heap.size w w' := by
  have t1 := te150
  go_enter Try.func28, Try.ntmps28
  go_wp2
  go_ret
  exact ⟨rfl, (Below.refl _ _).alloc (Nat.le_refl _) _⟩
set_option maxHeartbeats 1000000 in
set_option maxRecDepth 100000 in
theorem unaryOf_yes (q : Nat) (l : Int) (w : World) : Calls Try.prog 25 #[.agg #[.iface 71 (.pointer (some ⟨q, 0, none⟩)), .int .i32 l]] w fun e w' => e = .returned (.pointer (some ⟨q, 0, none⟩)) ∧ Below w.heap.size w w' := by
  have t1 := te71
  go_enter Try.func25, Try.ntmps25
  go_wp2
  go_ret
  exact ⟨rfl, (Below.refl _ _).alloc (Nat.le_refl _) _⟩
set_option maxHeartbeats 1000000 in
set_option maxRecDepth 100000 in
theorem binaryOf_yes (q : Nat) (l : Int) (w : World) : Calls Try.prog 24 #[.agg #[.iface 66 (.pointer (some ⟨q, 0, none⟩)), .int .i32 l]] w fun e w' => e = .returned (.pointer (some ⟨q, 0, none⟩)) ∧ Below w.heap.size w w' := by
  have t1 := te66
  go_enter Try.func24, Try.ntmps24
  go_wp2
  go_ret
  exact ⟨rfl, (Below.refl _ _).alloc (Nat.le_refl _) _⟩

set_option maxHeartbeats 1000000 in
set_option maxRecDepth 100000 in
theorem isIdent_yes (B : Nat) (v : Value) (l ref : Int) (w : World) (h : IsIdent w B v ref) : Calls Try.prog 21 #[.agg #[v, .int .i32 l], .int .i32 l, .int .u32 ref] w fun e w' => e = .returned (.bool true) ∧ Below w.heap.size w w' := by
  obtain ⟨q, rfl, _, h3⟩ := h
  have hq := World.block_lt_of_cell? w _ h3
  go_enter Try.func21, Try.ntmps21
  go_wp2_with fail
  refine (identOf_yes q l _).mono ?_
  rintro e w2 ⟨rfl, hb2⟩
  have hb : Below w.heap.size w w2 := ((Below.refl _ _).alloc (Nat.le_refl _) _).trans (hb2.mono (by simp))
  have h4 : w2.cell? ⟨q, 1, none⟩ = some (.int .u32 ref) := by rw [hb.cell (p := ⟨q, 1, none⟩) hq, h3]
  have h5 : w2.cell? ⟨w.heap.size, 1, none⟩ = some (.int .i32 l) := by rw [hb2.cell (p := ⟨w.heap.size, 1, none⟩) (by simp)]; exact new_cell _ _ _ _ _ _ rfl rfl
  clear hb2
  go_wp2_with fail
  go_ret
  exact ⟨rfl, hb⟩

set_option maxHeartbeats 4000000 in
set_option maxRecDepth 100000 in
/-- An identifier is not simplified. -/
theorem simplify_ident (q : Nat) (l : Int) (w : World) : Calls Try.prog 31 #[.agg #[.iface 150 (.pointer (some ⟨q, 0, none⟩)), .int .i32 l]] w fun e w' => e = .returned (.tuple #[.agg #[.nilIface, .int .i32 0], .bool false]) ∧ Below w.heap.size w w' := by
  have f66 := te66
  have f71 := te71
  have f162 := te162
  have f166 := te166
  have f169 := te169
  have f170 := te170
  have f171 := te171
  have f174 := te174
  have f179 := te179
  have f184 := te184
  have f187 := te187
  have f188 := te188
  have f189 := te189
  go_enter Try.func31, Try.ntmps31
  go_wp2
  exact bodyPost_ret (v := .tuple #[.agg #[.nilIface, .int .i32 0], .bool false]) (by simp [results, Try.results31, go_sem]) rfl ⟨rfl, ((Below.refl _ _).alloc (Nat.le_refl _) _).alloc (by simp) _⟩

/-- A negation's data. -/
def IsNot (w : World) (B : Nat) (v x : Value) (xl : Int) : Prop := ∃ q, v = .iface 71 (.pointer (some ⟨q, 0, none⟩)) ∧ B ≤ q ∧ q < w.heap.size ∧ w.cell? ⟨q, 0, none⟩ = some x ∧ w.cell? ⟨q, 1, none⟩ = some (.int .i32 xl) ∧ w.cell? ⟨q, 2, none⟩ = some (.int .u8 3)
theorem IsNot.below {w w' : World} {B : Nat} {v x : Value} {xl : Int} (h : IsNot w B v x xl) (hb : Below w.heap.size w w') : IsNot w' B v x xl := by
  obtain ⟨q, h1, h2, h3, h4, h5, h6⟩ := h
  exact ⟨q, h1, h2, Nat.lt_of_lt_of_le h3 hb.size, by rw [hb.cell (p := ⟨q, 0, none⟩) h3, h4], by rw [hb.cell (p := ⟨q, 1, none⟩) h3, h5], by rw [hb.cell (p := ⟨q, 2, none⟩) h3, h6]⟩

set_option maxHeartbeats 1000000 in
set_option maxRecDepth 100000 in
theorem not_ident (q : Nat) (l : Int) (w : World) : Calls Try.prog 30 #[.agg #[.iface 150 (.pointer (some ⟨q, 0, none⟩)), .int .i32 l]] w fun e w' => ∃ v, e = .returned (.agg #[v, .int .i32 l]) ∧ IsNot w' w.heap.size v (.iface 150 (.pointer (some ⟨q, 0, none⟩))) l ∧ Below w.heap.size w w' := by
  go_enter Try.func30, Try.ntmps30
  go_wp2_with fail
  refine (simplify_ident q l _).mono ?_
  rintro e w2 ⟨rfl, hb2⟩
  have hb : Below w.heap.size w w2 := (((Below.refl _ _).alloc (Nat.le_refl _) _).alloc (by simp) _).trans (hb2.mono (by simp; omega))
  have hs := hb2.size
  simp only [World.size_alloc] at hs
  have p1 : Pair w2 w.heap.size 49 (.iface 150 (.pointer (some ⟨q, 0, none⟩))) (.int .i32 l) := ((Pair.new w 49 _ _).alloc _).below hb2 (by simp; omega)
  have p2 : Pair w2 (w.heap.size + 1) 49 .nilIface (.int .i32 0) := by
    have := (Pair.new (w.alloc (.cells #[.iface 150 (.pointer (some ⟨q, 0, none⟩)), .int .i32 l] 49)) 49 .nilIface (.int .i32 0)).below hb2 (by simp)
    simpa using this
  have q1 := p1.c0
  have q2 := p1.c1
  have hlt : w.heap.size < w2.heap.size := by omega
  have q3 := fun o1 o2 => ((p2.alloc o1).alloc o2).c0
  have f1 := fun o1 o2 => ((p2.alloc o1).alloc o2).frozen 0
  have q4 : ∀ o1 v o2, (((w2.alloc o1).setCell ⟨w.heap.size + 1, 0, none⟩ v).alloc o2).cell? ⟨w.heap.size + 1, 1, none⟩ = some (.int .i32 0) := fun o1 v o2 => ((p2.alloc o1).set0 v |>.alloc o2).c1
  have f2 : ∀ o1 v o2, (((w2.alloc o1).setCell ⟨w.heap.size + 1, 0, none⟩ v).alloc o2).frozen? ⟨w.heap.size + 1, 1, none⟩ = false := fun o1 v o2 => ((p2.alloc o1).set0 v |>.alloc o2).frozen 1
  go_wp2_with fail
  have r0 : ∀ o1 v l' o2, ((((w2.alloc o1).setCell ⟨w.heap.size + 1, 0, none⟩ v).setCell ⟨w.heap.size + 1, 1, none⟩ l').alloc o2).cell? ⟨w.heap.size + 1, 0, none⟩ = some v := fun o1 v l' o2 => ((p2.alloc o1).set v l' |>.alloc o2).c0
  have r1 : ∀ o1 v l' o2, ((((w2.alloc o1).setCell ⟨w.heap.size + 1, 0, none⟩ v).setCell ⟨w.heap.size + 1, 1, none⟩ l').alloc o2).cell? ⟨w.heap.size + 1, 1, none⟩ = some l' := fun o1 v l' o2 => ((p2.alloc o1).set v l' |>.alloc o2).c1
  have hn : Has ((((w2.alloc (.cells #[.nilIface, .int .i32 0] 49)).setCell ⟨w.heap.size + 1, 0, none⟩ (.iface 71 (.pointer (some ⟨w2.heap.size + 1, 0, none⟩)))).setCell ⟨w.heap.size + 1, 1, none⟩ (.int .i32 l)).alloc (.cells #[.iface 150 (.pointer (some ⟨q, 0, none⟩)), .int .i32 l, .int .u8 3, .bool false, .bool false] 74)) (w2.heap.size + 1) 74 #[.iface 150 (.pointer (some ⟨q, 0, none⟩)), .int .i32 l, .int .u8 3, .bool false, .bool false] := Has.new _ _ _ (by simp)
  refine bodyPost_ret (v := .agg #[.iface 71 (.pointer (some ⟨w2.heap.size + 1, 0, none⟩)), .int .i32 l]) (by simp [results, Try.results30, go_sem, r0, r1]) rfl ⟨_, rfl, ⟨w2.heap.size + 1, rfl, by omega, hn.lt, hn.cell 0 rfl, hn.cell 1 rfl, hn.cell 2 rfl⟩, ?_⟩
  exact (((hb.alloc (by omega) _).setCell (p := ⟨w.heap.size + 1, 0, none⟩) (by show w.heap.size ≤ w.heap.size + 1; omega) _).setCell (p := ⟨w.heap.size + 1, 1, none⟩) (by show w.heap.size ≤ w.heap.size + 1; omega) _).alloc (by simp; omega) _

end Go.Proofs.Ytolpgogmbebmcaa
