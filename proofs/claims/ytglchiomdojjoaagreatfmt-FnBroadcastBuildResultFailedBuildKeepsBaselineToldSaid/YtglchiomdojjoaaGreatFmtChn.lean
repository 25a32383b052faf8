/-
  A send and a receive that do not wait, in the walk of one goroutine: code at frames of the ordinary kind; no program in sight (conditions: those that each lemma names).
-/
import Derived.Conc.LoneCalls
import Derived.WalkKit
namespace Go.Proofs.YtglchiomdojjoaaGreatFmt
open Go.RowKit Go.Conc

/-- As 'Code.wp', at frames of the ordinary kind alone (in an initialiser's frame a communication is refused). -/
def WpN (P : Program) (c : Code) (Q : Exit → Act → World → Prop) (a : Act) (w : World) : Prop :=
  ∀ (b : Frame) (k : List Item) (cs : List Frame), b.kind = .normal → ∃ e a' w', Q e a' w' ∧ Arrives P (lone (b.at a (.code c :: k)) cs w) b k cs e a' w'
/-- The same from within a region. -/
def OpsN (P : Program) (ops : Array Oper) (Q : Exit → Act → World → Prop) (l : List Nat) (a : Act) (w : World) : Prop :=
  ∀ (b : Frame) (k : List Item) (cs : List Frame), b.kind = .normal → ∃ e a' w', Q e a' w' ∧ Arrives P (lone (b.at a (.inRegion ops l :: k)) cs w) b k cs e a' w'
section
variable {P : Program} {Q : Exit → Act → World → Prop} {a : Act} {w : World} {ops : Array Oper} {i : Nat} {rest : List Nat} {o : Oper}

theorem WpN.of {c : Code} (h : c.wp P Q a w) : WpN P c Q a w := fun b k cs _ => h b k cs
theorem then_other {K : Act → World → Prop} {e : Exit} (he : e ≠ .normal) (h : Exit.then K Q e a w) : Q e a w := by
  cases e <;> first | exact absurd rfl he | exact h
theorem WpN.seq {x y : Code} (h : WpN P x (Exit.then (WpN P y Q) Q) a w) : WpN P (.seq x y) Q a w := by
  intro b k cs hb
  obtain ⟨e, a₁, w₁, hq, harr⟩ := h b (.code y :: k) cs hb
  by_cases he : e = .normal
  · subst he
    obtain ⟨e₂, a₂, w₂, hq₂, harr₂⟩ := hq b k cs hb
    exact ⟨e₂, a₂, w₂, hq₂, .of_steps (.head step_seq harr) harr₂⟩
  · exact ⟨e, a₁, w₁, then_other he hq, .of_steps (.one step_seq) (.pass (x := .code y) rfl (fun _ _ => .inl he) harr)⟩
theorem WpN.cond {c : Operand} {x y : Code} {t : Bool} (hc : a.eval c = .bool t) (h : WpN P (if t then x else y) Q a w) : WpN P (.cond c x y) Q a w := fun b k cs hb => by
  obtain ⟨e, a', w', q, r⟩ := h b k cs hb
  exact ⟨e, a', w', q, .of_steps (.one (step_cond hc)) r⟩
theorem WpN.block {id : Nat} {c : Code} (h : WpN P c (Exit.inBlock id Q) a w) : WpN P (.block id c) Q a w := by
  intro b k cs hb
  obtain ⟨e, a₁, w₁, hq, harr⟩ := h b (.inBlock id :: k) cs hb
  cases e with
  | normal => exact ⟨.normal, a₁, w₁, hq, .head step_block (Steps.trans harr (.one step_inBlock))⟩
  | exit id' =>
    by_cases hid : id' = id
    · have hq' : Q .normal a₁ w₁ := by simpa only [Exit.inBlock, hid, if_true] using hq
      exact ⟨.normal, a₁, w₁, hq', .head step_block (harr k (by simp [exitTo, hid]))⟩
    · have hq' : Q (.exit id') a₁ w₁ := by simpa only [Exit.inBlock, hid, if_false] using hq
      have hne : (id == id') = false := by simp; exact fun e => hid e.symm
      exact ⟨.exit id', a₁, w₁, hq', fun k' hk => .head step_block (harr k' (by simp [exitTo, hne, hk]))⟩
  | goto l => exact ⟨_, a₁, w₁, hq, fun k' hk => .head step_block (harr k' (by simp [gotoIn, hk]))⟩
  | ret => exact ⟨_, a₁, w₁, hq, .of_steps (.one step_block) harr⟩
  | panic ch => exact ⟨_, a₁, w₁, hq, .of_steps (.one step_block) harr⟩
  | outgrown => exact ⟨_, a₁, w₁, hq, .of_steps (b := b) (k := k) (cs := cs) (e := .outgrown) (.one step_block) harr⟩
/-- A loop's body, then the loop again. -/
def LoopN (P : Program) (c : Code) (Q : Exit → Act → World → Prop) (a : Act) (w : World) : Prop :=
  ∀ (b : Frame) (k : List Item) (cs : List Frame), b.kind = .normal → ∃ e a' w', Q e a' w' ∧ Arrives P (lone (b.at a (.code c :: .inLoop c :: k)) cs w) b k cs e a' w'
theorem WpN.loop {c : Code} (h : LoopN P c Q a w) : WpN P (.loop c) Q a w := fun b k cs hb => by
  obtain ⟨e, a', w', q, r⟩ := h b k cs hb
  exact ⟨e, a', w', q, .of_steps (.one step_loop) r⟩
theorem LoopN.round {c : Code} (h : WpN P c (Exit.then (LoopN P c Q) Q) a w) : LoopN P c Q a w := by
  intro b k cs hb
  obtain ⟨e, a₁, w₁, hq, harr⟩ := h b (.inLoop c :: k) cs hb
  by_cases he : e = .normal
  · subst he
    obtain ⟨e₂, a₂, w₂, hq₂, harr₂⟩ := hq b k cs hb
    exact ⟨e₂, a₂, w₂, hq₂, .of_steps (Steps.trans harr (.one step_inLoop)) harr₂⟩
  · exact ⟨e, a₁, w₁, then_other he hq, .pass (x := .inLoop c) rfl (fun _ _ => .inl he) harr⟩
theorem WpN.region {id : Nat} (h : OpsN P ops Q (List.range ops.size) a w) : WpN P (.region id ops false) Q a w := fun b k cs hb => by
  obtain ⟨e, a', w', q, r⟩ := h b k cs hb
  exact ⟨e, a', w', q, .of_steps (.one step_region) r⟩
theorem OpsN.nil (h : Q .normal a w) : OpsN P ops Q [] a w := fun _ _ _ _ => ⟨.normal, a, w, h, .one step_region_end⟩
theorem OpsN.value {v : Value} {w' : World} (ho : ops[i]? = some o) (hw : Region.wanted o (yielded ops a.tmps) = true) (hr : (execOp a.eval o).run P w = .ok (.value v) w') (h : OpsN P ops Q rest (a.put o.dst v) w') :
    OpsN P ops Q (i :: rest) a w := by
  intro b k cs hb
  obtain ⟨e, a', w'', hq, harr⟩ := h b k cs hb
  refine ⟨e, a', w'', hq, .of_steps (.one (step_lone_go ?_)) harr⟩
  have hfin : b.at (a.put o.dst v) (.inRegion ops rest :: k) = (b.at a (.inRegion ops (i :: rest) :: k)).finish v := by rw [Frame.finish_at, ho]; rfl
  rw [stepG_op ho hw, hfin]
  simp [stepG.apply, hr]
theorem OpsN.skip {w' : World} (ho : ops[i]? = some o) (hw : Region.wanted o (yielded ops a.tmps) = true) (hr : (execOp a.eval o).run P w = .ok .skip w') (h : OpsN P ops Q rest (a.put o.dst undef) w') :
    OpsN P ops Q (i :: rest) a w := by
  intro b k cs hb
  obtain ⟨e, a', w'', hq, harr⟩ := h b k cs hb
  refine ⟨e, a', w'', hq, .of_steps (.one (step_lone_go ?_)) harr⟩
  have hfin : b.at (a.put o.dst undef) (.inRegion ops rest :: k) = (b.at a (.inRegion ops (i :: rest) :: k)).finish undef := by rw [Frame.finish_at, ho]; rfl
  rw [stepG_op ho hw, hfin]
  simp [stepG.apply, hr]
/-- A send into a buffer with room. -/
theorem OpsN.send {w₁ : World} {c cap s r : Nat} {buf : Array Value} {v z : Value} {tm : Bool} (ho : ops[i]? = some o) (hw : Region.wanted o (yielded ops a.tmps) = true)
    (hr : (execOp a.eval o).run P w = .ok (.comm #[scase c v z] true .send) w₁) (hc : w₁.heap[c]? = some (.chan cap buf false s r tm)) (hroom : buf.size < cap)
    (h : OpsN P ops Q rest (a.put o.dst undef) (w₁.setChan c cap (buf.push v) false (s + 1) r tm)) : OpsN P ops Q (i :: rest) a w := by
  intro b k cs hb
  obtain ⟨e, a', w'', hq, harr⟩ := h b k cs hb
  have hfin : b.at (a.put o.dst undef) (.inRegion ops rest :: k) = (b.at a (.inRegion ops (i :: rest) :: k)).finish undef := by rw [Frame.finish_at, ho]; rfl
  have hst := step_lone_send_room (stepG_comm (main := true) (b := b) (k := k) (cs := cs) (rest := rest) ho hw (by rw [hb]; decide) hr) hc hroom
  rw [← hfin] at hst
  exact ⟨e, a', w'', hq, .of_steps (.one hst) harr⟩
/-- A receive from a buffer that holds something. -/
theorem OpsN.recv {w₁ : World} {c cap s r : Nat} {buf : Array Value} {z : Value} {tm closed : Bool} (ok : Bool) (ho : ops[i]? = some o) (hw : Region.wanted o (yielded ops a.tmps) = true)
    (hr : (execOp a.eval o).run P w = .ok (.comm #[rcase c z] true (.recv ok)) w₁) (hc : w₁.heap[c]? = some (.chan cap buf closed s r tm)) (hsome : 0 < buf.size)
    (h : OpsN P ops Q rest (a.put o.dst (got ok (buf.getD 0 undef) true)) (w₁.setChan c cap (buf.extract 1 buf.size) closed s (r + 1) tm)) : OpsN P ops Q (i :: rest) a w := by
  intro b k cs hb
  obtain ⟨e, a', w'', hq, harr⟩ := h b k cs hb
  have hfin : b.at (a.put o.dst (got ok (buf.getD 0 undef) true)) (.inRegion ops rest :: k) = (b.at a (.inRegion ops (i :: rest) :: k)).finish (got ok (buf.getD 0 undef) true) := by rw [Frame.finish_at, ho]; rfl
  have hst := step_lone_recv_buf ok (stepG_comm (main := true) (b := b) (k := k) (cs := cs) (rest := rest) ho hw (by rw [hb]; decide) hr) hc hsome
  rw [← hfin] at hst
  exact ⟨e, a', w'', hq, .of_steps (.one hst) harr⟩
end
theorem calls_of_wpN {P : Program} {f : FuncId} {fn : Func} {c : Code} {args : Array Value} {w : World} {R : Ending → World → Prop} (hf : P.funcs[f]? = some fn) (hb : fn.body = some c)
    (h : WpN P c (bodyPost P fn R) { tmps := args ++ Array.replicate (fn.ntmps - args.size) undef, defers := [] } w) : Calls P f args w R := by
  intro cs
  obtain ⟨b, hbk, hbf, henter⟩ : ∃ b : Frame, b.kind = .normal ∧ b.fn = f ∧ Frame.enter P f args .normal = b.at { tmps := args ++ Array.replicate (fn.ntmps - args.size) undef, defers := [] } [.code c] :=
    ⟨{ (default : Frame) with fn := f, kind := .normal }, rfl, rfl, by simp [Frame.enter, Frame.at, hf, hb]⟩
  obtain ⟨e, a', w', hq, harr⟩ := h b [] cs hbk
  rw [← henter] at harr
  cases e with
  | normal =>
    obtain ⟨hd, v, hr, hR⟩ := hq
    exact ⟨.returned v, w', _, hR, Steps.trans harr (.one step_end), hbf, rfl, hd, hbk, fn, by show P.funcs[b.fn]? = _; rw [hbf]; exact hf, hr⟩
  | ret =>
    obtain ⟨hd, v, hr, hR⟩ := hq
    obtain ⟨todo, hs⟩ := harr
    exact ⟨.returned v, w', _, hR, hs, hbf, rfl, hd, hbk, fn, by show P.funcs[b.fn]? = _; rw [hbf]; exact hf, hr⟩
  | panic chain =>
    obtain ⟨hd, hR⟩ := hq
    obtain ⟨todo, hs⟩ := harr
    exact ⟨.panicked chain, w', _, hR, hs, hbf, rfl, hd, fn, by show P.funcs[b.fn]? = _; rw [hbf]; exact hf⟩
  | exit id => exact hq.elim
  | goto l => exact hq.elim
  | outgrown => exact ⟨.outgrown, w', { b with fn := f }, hq, harr.resolve_left (by simp [hbk]), rfl, trivial⟩
end Go.Proofs.YtglchiomdojjoaaGreatFmt
