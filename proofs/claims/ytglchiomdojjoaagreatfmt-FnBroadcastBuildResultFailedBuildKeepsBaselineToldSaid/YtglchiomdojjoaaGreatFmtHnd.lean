/-
  The handler: made, its channel looked at, an event taken; conditions: those that each lemma names.
-/
import Derived.Test.YtglchiomdojjoaaGreatFmtChn
import Derived.Test.YtglchiomdojjoaaGreatFmtStr
import Derived.Test.YtglchiomdojjoaaGreatFmtRows
import Derived.Test.YtglchiomdojjoaaGreatFmtRow
import Derived.Conc.LoneSelectN
import Derived.WalkSpells
import Derived.OwnWalk
import Derived.Deep.Cut
import Derived.BigQuiet
import Derived.KernelRfl
namespace Go.Proofs.YtglchiomdojjoaaGreatFmt
open Go.RowKit Go.Conc

/-- "/out". -/
def outS : ByteArray := ⟨#[47, 111, 117, 116]⟩
/-- The handler that lies from n on: its channel, the row that holds it, itself. -/
structure HA (n : Nat) (pub : ByteArray) (m : Nat) (buf : Array Value) (w : World) : Prop where
  hd : ∃ cs, w.heap[n + 2]? = some (.cells cs 70 (0, 0)) ∧ cs.size = 19 ∧ cs[4]? = some (.string outS) ∧ cs[5]? = some (.string ⟨#[]⟩) ∧ cs[6]? = some (.string pub) ∧ cs[15]? = some (.slice (some ⟨n + 1, 0, none⟩) 1 1) ∧ cs[16]? = some (.map (some m)) ∧ (∃ x, cs[17]? = some (.int .i32 x)) ∧ cs[18]? = some (.int .u32 0)
  row : w.heap[n + 1]? = some (.cells #[.chan (some n)] 49 (0, 0))
  ch : ∃ s r, w.heap[n]? = some (.chan 1 buf false s r false)
/-- The lock is free. -/
def Free (n : Nat) (w : World) : Prop := ∃ cs, w.heap[n + 2]? = some (.cells cs 70 (0, 0)) ∧ cs[17]? = some (.int .i32 0)
theorem HA.keep {n m : Nat} {pub : ByteArray} {buf : Array Value} {w w' : World} (h : HA n pub m buf w) (h0 : w'.heap[n]? = w.heap[n]?) (h1 : w'.heap[n + 1]? = w.heap[n + 1]?) (h2 : w'.heap[n + 2]? = w.heap[n + 2]?) : HA n pub m buf w' := by
  obtain ⟨⟨cs, a, b⟩, c, ⟨s, r, d⟩⟩ := h
  exact ⟨⟨cs, h2.trans a, b⟩, h1.trans c, ⟨s, r, h0.trans d⟩⟩
theorem HA.lt {n m : Nat} {pub : ByteArray} {buf : Array Value} {w : World} (h : HA n pub m buf w) : n + 2 < w.heap.size := by
  obtain ⟨⟨cs, a, _⟩, _⟩ := h
  exact (Array.getElem?_eq_some_iff.1 a).1
theorem HA.below {n m B : Nat} {pub : ByteArray} {buf : Array Value} {w w' : World} (h : HA n pub m buf w) (k : Below B w w') (hB : n + 2 < B) : HA n pub m buf w' := h.keep (k.block n (by omega)) (k.block _ (by omega)) (k.block _ hB)
theorem HA.up {n m : Nat} {pub : ByteArray} {buf : Array Value} {w w' : World} (h : HA n pub m buf w) (k : Below w.heap.size w w') : HA n pub m buf w' := h.below k h.lt
theorem HA.cells {n m : Nat} {pub : ByteArray} {buf : Array Value} {w : World} (h : HA n pub m buf w) : w.cell? ⟨n + 2, 4, none⟩ = some (.string outS) ∧ w.cell? ⟨n + 2, 5, none⟩ = some (.string ⟨#[]⟩) ∧ w.cell? ⟨n + 2, 6, none⟩ = some (.string pub) ∧
    w.cell? ⟨n + 2, 15, none⟩ = some (.slice (some ⟨n + 1, 0, none⟩) 1 1) ∧ w.cell? ⟨n + 2, 16, none⟩ = some (.map (some m)) ∧ w.cell? ⟨n + 1, 0, none⟩ = some (.chan (some n)) := by
  obtain ⟨⟨cs, a, b, c4, c5, c6, c15, c16, _⟩, r, _⟩ := h
  refine ⟨?_, ?_, ?_, ?_, ?_, ?_⟩
  · rw [cell_of_row w _ _ cs 70 (0, 0) a]; exact c4
  · rw [cell_of_row w _ _ cs 70 (0, 0) a]; exact c5
  · rw [cell_of_row w _ _ cs 70 (0, 0) a]; exact c6
  · rw [cell_of_row w _ _ cs 70 (0, 0) a]; exact c15
  · rw [cell_of_row w _ _ cs 70 (0, 0) a]; exact c16
  · rw [cell_of_row w _ _ _ 49 (0, 0) r]; rfl
theorem bytes77 : (Tryz.prog.info? 77).map (·.bytes) = some 32 := by kernel_rfl
theorem mk49 (w : World) : (Instr.makeChan 49 (.int .i64 1)).run Tryz.prog w = .ok (.chan (some w.heap.size)) (w.alloc (.chan 1 #[] false 0 0 false)) := by
  obtain ⟨i, hi, hb⟩ := Option.map_eq_some_iff.1 bytes77
  simpa using run_makeChan (P := Tryz.prog) (w := w) Tryz.underlying49 hi .i64 1 (by omega) (by rw [hb]; omega)
set_option maxHeartbeats 2000000 in
set_option maxRecDepth 100000 in
theorem pend_any (n m : Nat) (pub : ByteArray) (buf : Array Value) (w : World) (h : HA n pub m buf w) : Calls Tryz.prog 12 #[.pointer (some ⟨n + 2, 0, none⟩)] w fun e w' => e = .returned (.int .i64 buf.size) ∧ w = w' := by
  obtain ⟨_, _, _, c15, _, r0⟩ := h.cells
  obtain ⟨s, r, hc⟩ := h.ch
  have hl := fun ty => run_len_chan (P := Tryz.prog) 49 ty Tryz.underlying49 hc
  clear h hc
  go_enter Tryz.func12, Tryz.ntmps12
  go_wp2_with fail
  go_ret
  exact ⟨rfl, rfl⟩
def hcells (n : Nat) (pub : ByteArray) (m : Nat) : Array Value := #[.nilFunc, .nilFunc, .nilFunc, .nilIface, .string outS, .string ⟨#[]⟩, .string pub, .string ⟨#[]⟩, .string ⟨#[]⟩, .string ⟨#[]⟩, .string ⟨#[]⟩, .slice none 0 0, .slice none 0 0, .int .u64 0,
  .int .u32 0, .slice (some ⟨n + 1, 0, none⟩) 1 1, .map (some m), .int .i32 0, .int .u32 0]
set_option maxHeartbeats 2000000 in
set_option maxRecDepth 100000 in
theorem new_any (pub : ByteArray) (m : Nat) (w : World) : Calls Tryz.prog 8 #[.string outS, .string pub, .map (some m)] w fun e w' => e = .returned (.pointer (some ⟨w.heap.size + 2, 0, none⟩)) ∧ HA w.heap.size pub m #[] w' ∧ Below w.heap.size w w' ∧ Free w.heap.size w' := by
  have hmk := mk49
  go_enter Tryz.func8, Tryz.ntmps8
  go_wp2_with fail
  go_ret
  rw [show (#[.nilFunc, .nilFunc, .nilFunc, .nilIface, .string outS, .string ⟨#[]⟩, .string pub, .string ⟨#[]⟩, .string ⟨#[]⟩, .string ⟨#[]⟩, .string ⟨#[]⟩, .slice none 0 0, .slice none 0 0, .int .u64 0, .int .u32 0, .slice (some ⟨w.heap.size + 1, 0, none⟩) 1 1, .map (some m), .int .i32 0, .int .u32 0] : Array Value) = hcells w.heap.size pub m from rfl]
  refine ⟨rfl, ⟨⟨hcells w.heap.size pub m, ?_, rfl, rfl, rfl, rfl, rfl, rfl, ⟨0, rfl⟩, rfl⟩, ?_, ⟨0, 0, ?_⟩⟩, (((Below.refl _ _).alloc (Nat.le_refl _) _).alloc (by simp) _).alloc (by simp; omega) _, ⟨hcells w.heap.size pub m, ?_, rfl⟩⟩
  · have := heap_alloc_new ((w.alloc (.chan 1 #[] false 0 0 false)).alloc (.cells #[.chan (some w.heap.size)] 49)) (.cells (hcells w.heap.size pub m) 70)
    simpa using this
  · rw [Below.heap_alloc _ _ _ (by simp)]
    have := heap_alloc_new (w.alloc (.chan 1 #[] false 0 0 false)) (.cells #[.chan (some w.heap.size)] 49)
    simpa using this
  · rw [Below.heap_alloc _ _ _ (by simp; omega), Below.heap_alloc _ _ _ (by simp)]
    exact heap_alloc_new w _
  · have := heap_alloc_new ((w.alloc (.chan 1 #[] false 0 0 false)).alloc (.cells #[.chan (some w.heap.size)] 49)) (.cells (hcells w.heap.size pub m) 70)
    simpa using this
set_option maxHeartbeats 2000000 in
set_option maxRecDepth 100000 in
theorem recv_any (n m : Nat) (pub a b : ByteArray) (w : World) (h : HA n pub m #[.agg #[.string a, .string b]] w) : Calls Tryz.prog 13 #[.pointer (some ⟨n + 2, 0, none⟩)] w fun e w' => e = .returned (.tuple #[.string a, .string b]) ∧ HA n pub m #[] w' ∧ w.grownBy w' (some n) := by
  obtain ⟨_, _, _, c15, _, r0⟩ := h.cells
  obtain ⟨s, r, hc⟩ := h.ch
  refine calls_of_wpN Tryz.func13 rfl ?_
  simp only [Tryz.ntmps13, List.size_toArray, List.length_cons, List.length_nil, Nat.reduceAdd, Nat.reduceSub, Array.replicate_succ,
     Array.replicate_zero, List.push_toArray, List.append_toArray, List.nil_append, List.cons_append]
  refine WpN.seq (WpN.of ?_)
  go_wp2_with fail
  refine WpN.seq (WpN.region ?_)
  change OpsN _ _ _ [0, 1, 2, 3, 4, 5, 6, 7, 8] _ _
  refine OpsN.value (v := .pointer (some ⟨n + 2, 0, none⟩)) (w' := w) rfl rfl (by simp [go_sem, execOp]) ?_
  refine OpsN.value (v := .pointer (some ⟨n + 2, 0, none⟩)) (w' := w) rfl rfl (by simp [go_sem, execOp, Act.put]) ?_
  refine OpsN.value (v := .pointer (some ⟨n + 2, 15, none⟩)) (w' := w) rfl rfl (by simp [go_sem, execOp, Act.put]) ?_
  refine OpsN.value (v := .slice (some ⟨n + 1, 0, none⟩) 1 1) (w' := w) rfl rfl (by simp [go_sem, execOp, Act.put, c15]) ?_
  refine OpsN.value (v := .pointer (some ⟨n + 1, 0, none⟩)) (w' := w) rfl rfl (by simp [go_sem, execOp, Act.put]) ?_
  refine OpsN.value (v := .chan (some n)) (w' := w) rfl rfl (by simp [go_sem, execOp, Act.put, r0]) ?_
  refine OpsN.recv (w₁ := w) (z := .agg #[.string ⟨#[]⟩, .string ⟨#[]⟩]) false rfl rfl (by simp [go_sem, execOp, Act.put, rcase]) hc (by simp) ?_
  obtain ⟨W, hW⟩ : ∃ W, w.setChan n 1 (#[Value.agg #[.string a, .string b]].extract 1 #[Value.agg #[.string a, .string b]].size) false s (r + 1) false = W := ⟨_, rfl⟩
  rw [hW]
  have hWs : W.heap.size = w.heap.size := by rw [← hW, size_setChan]
  have hWh : HA n pub m #[] W := by
    have hl := h.lt
    obtain ⟨hd, hr, _⟩ := h
    have ho : ∀ k, k ≠ n → W.heap[k]? = w.heap[k]? := fun k hk => by
      rw [← hW]
      simp only [World.setChan]
      rw [Array.getElem?_setIfInBounds_ne (fun e => hk e.symm)]
    obtain ⟨cs, e1, e2⟩ := hd
    exact ⟨⟨cs, by rw [ho _ (by omega)]; exact e1, e2⟩, by rw [ho _ (by omega)]; exact hr, ⟨s, r + 1, by rw [← hW, heap_setChan _ _ _ _ _ _ _ _ (by omega)]; rfl⟩⟩
  have hWg : w.grownBy W (some n) := by
    rw [← hW]
    refine ⟨rfl, rfl, rfl, Nat.le_of_eq (size_setChan _ _ _ _ _ _ _ _).symm, fun k _ hk => ?_⟩
    simp only [World.setChan]
    rw [Array.getElem?_setIfInBounds_ne (fun e => hk (by rw [e]))]
  have HW := Lib.hid (And.intro hWh hWg)
  clear hW hWh hWg h hc r0 c15
  refine OpsN.value (v := .pointer (some ⟨W.heap.size, 0, none⟩)) (w' := W.alloc (.cells #[.string ⟨#[]⟩, .string ⟨#[]⟩] 77)) rfl rfl (by simp [go_sem, execOp]) ?_
  refine OpsN.skip (w' := W.alloc (.cells #[.string a, .string b] 77)) rfl rfl (by simp [go_sem, execOp, Act.put, got]) ?_
  refine OpsN.nil ?_
  refine WpN.of ?_
  show Code.wp _ _ _ { tmps := #[.pointer (some ⟨n + 2, 0, none⟩), undef, .string ⟨#[]⟩, .string ⟨#[]⟩, .pointer (some ⟨W.heap.size, 0, none⟩), .pointer (some ⟨n + 2, 0, none⟩), .pointer (some ⟨n + 2, 0, none⟩), .pointer (some ⟨n + 2, 15, none⟩), .slice (some ⟨n + 1, 0, none⟩) 1 1,
    .pointer (some ⟨n + 1, 0, none⟩), .chan (some n), .agg #[.string a, .string b], undef, undef, undef, undef], defers := [] } _
  go_wp2_with fail
  go_quiet (fail)
  go_wp2_with fail
  go_ret2
  have hb : Below W.heap.size W ((W.alloc (.cells #[.string a, .string b] 77)).drewN nq) := by
    have h0 : Below W.heap.size W (W.alloc (.cells #[.string a, .string b] 77)) := (Below.refl _ _).alloc (Nat.le_refl _) _
    exact ⟨h0.os, h0.tape, h0.output, h0.size, h0.block⟩
  refine ⟨rfl, HW.out.1.up hb, ?_⟩
  have hg := HW.out.2
  exact ⟨hb.os.trans hg.os, hb.tape.trans hg.tape, hb.output.trans hg.output, Nat.le_trans hg.size hb.size, fun k hk hkn => (hb.block k (by omega)).trans (hg.block k hk hkn)⟩
end Go.Proofs.YtglchiomdojjoaaGreatFmt
