/-
  The six arguments taken out at once, in whatever order; conditions: those that each names.
-/
import Derived.Test.YtjanppdeddfehaaFmtReg
import Derived.Test.YtjanppdeddfehaaFmtBfn
namespace Go.Proofs.YtjanppdeddfehaaFmt
open Go.RowKit

theorem wp_val {P : Program} {o : Oper} {a : Act} {w w' : World} {K : Act → World → Prop} {Q : Exit → Act → World → Prop} {x : Value} (h : (execOp a.eval o).run P w = .ok (.value x) w') (hk : K (a.put o.dst x) w') : o.wp P a w K Q := by
  unfold Oper.wp
  rw [h]
  exact hk
theorem wp_skip {P : Program} {o : Oper} {a : Act} {w w' : World} {K : Act → World → Prop} {Q : Exit → Act → World → Prop} (h : (execOp a.eval o).run P w = .ok .skip w') (hd : o.dst = none) (hk : K a w') : o.wp P a w K Q := by
  unfold Oper.wp
  rw [h]
  simp only [Oper.upon, hd]
  exact hk
theorem run_ix (g i : Nat) (w : World) (hi : i < 11) : (Instr.indexAt 26 (.slice (some ⟨g, 0, none⟩) 11 11) (.int .i64 (i : Int))).run Tryf.prog w = .ok (.pointer (some ⟨g, i * 7, none⟩)) w := by
  have h2 : ¬ (11 : Int) ≤ (i : Int) := by omega
  go_simp
theorem run_ld (g o : Nat) (x : Tk) (w : World) (h : TkAt w g o x) : (Instr.loadAt 37 (.pointer (some ⟨g, o, none⟩))).run Tryf.prog w = .ok (tkV x) w := by
  obtain ⟨c0, c1, c2, c3, c4, c5, c6⟩ := h
  unfold tkV
  go_simp
theorem run_al (w : World) : (Instr.alloc 37 true (.tuple #[])).run Tryf.prog w = .ok (.pointer (some ⟨w.heap.size, 0, none⟩)) (w.alloc (.cells #[.pointer none, .string ⟨#[]⟩, .int .i32 0, .int .u32 0, .int .u16 0, .int .u8 0, .int .u8 0] 37)) := by
  go_simp
theorem run_st (p : Nat) (x : Tk) (w : World) (h : Blk w p 7) : (Instr.storeAt 37 (.pointer (some ⟨p, 0, none⟩)) (tkV x)).run Tryf.prog w = .ok () (put7 w p 0 x) := by
  obtain ⟨u0, e0⟩ := h.cell (j := 0) (by omega)
  obtain ⟨u1, e1⟩ := h.cell (j := 1) (by omega)
  obtain ⟨u2, e2⟩ := h.cell (j := 2) (by omega)
  obtain ⟨u3, e3⟩ := h.cell (j := 3) (by omega)
  obtain ⟨u4, e4⟩ := h.cell (j := 4) (by omega)
  obtain ⟨u5, e5⟩ := h.cell (j := 5) (by omega)
  obtain ⟨u6, e6⟩ := h.cell (j := 6) (by omega)
  have f0 := h.frozen 0
  have f1 := h.frozen 1
  have f2 := h.frozen 2
  have f3 := h.frozen 3
  have f4 := h.frozen 4
  have f5 := h.frozen 5
  have f6 := h.frozen 6
  unfold tkV put7
  go_simp

/-- What the operations are. -/
def sp (i : Nat) : Option Tmp × Op :=
  if i < 18 then (if i % 3 = 0 then (some (69 + i), .move (.tmp 7)) else if i % 3 = 1 then (some (69 + i), .indexAddr 26 (.tmp (68 + i)) (.const (.int .i64 ((i / 3 * 2 : Nat) : Int)))) else (some (69 + i), .load 37 (.tmp (68 + i))))
  else if i < 24 then (some (i - 9), .alloc 37) else (none, .store 37 (.tmp (i - 15)) (.tmp (71 + 3 * (i - 24))))
def need (i : Nat) : List Nat := if i < 18 then (if i % 3 = 0 then [] else [i - 1]) else if i < 24 then [] else [i - 6, 3 * (i - 24) + 2]
/-- What the slots of the first eighteen hold. -/
def vl (cb : Nat) (K : Nat → Tk) (i : Nat) : Value := if i % 3 = 0 then .slice (some ⟨cb, 0, none⟩) 11 11 else if i % 3 = 1 then .pointer (some ⟨cb, i / 3 * 2 * 7, none⟩) else tkV (K (i / 3 * 2))
structure Inv (T0 : Array Value) (cb : Nat) (K : Nat → Tk) (w0 : World) (p : Nat → Nat) (listed : Array Bool) (a : Act) (w : World) : Prop where
  sz : listed.size = 30
  df : a.defers = []
  tsz : a.tmps.size = T0.size
  oth : ∀ s, (s < 9 ∨ (14 < s ∧ s < 69) ∨ 86 < s) → a.tmps[s]? = T0[s]?
  val : ∀ i, i < 18 → listed[i]? = some true → a.tmps[69 + i]? = some (vl cb K i)
  al : ∀ k, k < 6 → listed[18 + k]? = some true → a.tmps[9 + k]? = some (.pointer (some ⟨p k, 0, none⟩)) ∧ w0.heap.size ≤ p k ∧ p k < w.heap.size ∧ Blk w (p k) 7
  st : ∀ k, k < 6 → listed[24 + k]? = some true → listed[18 + k]? = some true ∧ TkAt w (p k) 0 (K (2 * k))
  dj : ∀ k l, k < 6 → l < 6 → k ≠ l → listed[18 + k]? = some true → listed[18 + l]? = some true → p k ≠ p l
  bl : Below w0.heap.size w0 w
theorem set_true {l : Array Bool} {i j : Nat} (h : (l.setIfInBounds i true)[j]? = some true) : j = i ∨ l[j]? = some true := by
  by_cases he : j = i
  · exact .inl he
  · rw [Array.getElem?_setIfInBounds_ne (fun e => he e.symm)] at h
    exact .inr h
theorem put_other {T : Array Value} {d s : Nat} {v : Value} (h : s ≠ d) : (T.setIfInBounds d v)[s]? = T[s]? := Array.getElem?_setIfInBounds_ne (fun e => h e.symm)
theorem put_same {T : Array Value} {d : Nat} {v : Value} (h : d < T.size) : (T.setIfInBounds d v)[d]? = some v := by simp [h]
theorem TkAt.blk {w w' : World} {g o : Nat} {x : Tk} (h : TkAt w g o x) (he : w'.heap[g]? = w.heap[g]?) : TkAt w' g o x := h.out fun p _ _ => by
  refine World.cell?_of_block ?_
  exact he
theorem Blk.blk {w w' : World} {g n : Nat} (h : Blk w g n) (he : w'.heap[g]? = w.heap[g]?) : Blk w' g n := by
  obtain ⟨cs, h1, h2⟩ := h
  exact ⟨cs, he.trans h1, h2⟩
/-- The first eighteen. -/
theorem Inv.put {T0 : Array Value} {cb : Nat} {K : Nat → Tk} {w0 w : World} {p : Nat → Nat} {listed : Array Bool} {a : Act} {i : Nat} (h : Inv T0 cb K w0 p listed a w) (hi : i < 18) (hT : 86 < T0.size) : Inv T0 cb K w0 p (listed.setIfInBounds i true) (a.put (some (69 + i)) (vl cb K i)) w := by
  obtain ⟨h1, h2, h3, h4, h5, h6, h7, h8, h9⟩ := h
  refine ⟨by simp [h1], h2, by simp [Act.put, h3], fun s hs => ?_, fun j hj hl => ?_, fun k hk hl => ?_, fun k hk hl => ?_, fun k l hk hl hne a1 a2 => ?_, h9⟩
  · exact (put_other (by omega)).trans (h4 s hs)
  · by_cases he : j = i
    · subst he
      exact put_same (by omega)
    · rcases set_true hl with e | hl
      · exact absurd e he
      · exact (put_other (by omega)).trans (h5 j hj hl)
  · rcases set_true hl with e | hl
    · omega
    · obtain ⟨g1, g2⟩ := h6 k hk hl
      exact ⟨(put_other (by omega)).trans g1, g2⟩
  · rcases set_true hl with e | hl
    · omega
    · obtain ⟨g1, g2⟩ := h7 k hk hl
      exact ⟨by rw [Array.getElem?_setIfInBounds_ne (by omega)]; exact g1, g2⟩
  · rcases set_true a1 with e | a1
    · omega
    · rcases set_true a2 with e | a2
      · omega
      · exact h8 k l hk hl hne a1 a2
/-- A new variable. -/
theorem Inv.alloc {T0 : Array Value} {cb : Nat} {K : Nat → Tk} {w0 w : World} {p : Nat → Nat} {listed : Array Bool} {a : Act} {k : Nat} (h : Inv T0 cb K w0 p listed a w) (hk : k < 6) (hT : 86 < T0.size) (hn : listed[18 + k]? = some false) {cs : Array Value} (hcs : cs.size = 7) :
    Inv T0 cb K w0 (fun j => if j = k then w.heap.size else p j) (listed.setIfInBounds (18 + k) true) (a.put (some (9 + k)) (.pointer (some ⟨w.heap.size, 0, none⟩))) (w.alloc (.cells cs 37)) := by
  obtain ⟨h1, h2, h3, h4, h5, h6, h7, h8, h9⟩ := h
  have hb : Below w.heap.size w (w.alloc (.cells cs 37)) := (Below.refl _ _).alloc (Nat.le_refl _) _
  refine ⟨by simp [h1], h2, by simp [Act.put, h3], fun s hs => ?_, fun j hj hl => ?_, fun j hj hl => ?_, fun j hj hl => ?_, fun j l hj hl hne a1 a2 => ?_, h9.alloc h9.size _⟩
  · exact (put_other (by omega)).trans (h4 s hs)
  · rcases set_true hl with e | hl
    · omega
    · exact (put_other (by omega)).trans (h5 j hj hl)
  · by_cases he : j = k
    · subst he
      simp only [if_true]
      exact ⟨put_same (by omega), h9.size, by simp, ⟨cs, heap_alloc_new w _, hcs⟩⟩
    · rcases set_true hl with e | hl
      · omega
      · obtain ⟨g1, g2, g3, g4⟩ := h6 j hj hl
        simp only [if_neg he]
        exact ⟨(put_other (by omega)).trans g1, g2, by simp; omega, g4.blk (hb.block _ g3)⟩
  · rcases set_true hl with e | hl
    · omega
    · obtain ⟨g1, g2⟩ := h7 j hj hl
      have he : j ≠ k := fun e => by
        subst e
        rw [hn] at g1
        cases g1
      simp only [if_neg he]
      exact ⟨by rw [Array.getElem?_setIfInBounds_ne (by omega)]; exact g1, g2.up hb⟩
  · by_cases e1 : j = k
    · have e2 : l ≠ k := fun e => hne (e1.trans e.symm)
      simp only [if_pos e1, if_neg e2]
      rcases set_true a2 with e | a2
      · omega
      · have := (h6 l hl a2).2.2.1
        omega
    · simp only [if_neg e1]
      rcases set_true a1 with e | a1
      · omega
      · by_cases e2 : l = k
        · simp only [if_pos e2]
          have := (h6 j hj a1).2.2.1
          omega
        · simp only [if_neg e2]
          rcases set_true a2 with e | a2
          · omega
          · exact h8 j l hj hl hne a1 a2
/-- A store into a variable. -/
theorem Inv.store {T0 : Array Value} {cb : Nat} {K : Nat → Tk} {w0 w : World} {p : Nat → Nat} {listed : Array Bool} {a : Act} {k : Nat} (h : Inv T0 cb K w0 p listed a w) (hk : k < 6) (hl0 : listed[18 + k]? = some true) :
    Inv T0 cb K w0 p (listed.setIfInBounds (24 + k) true) a (put7 w (p k) 0 (K (2 * k))) := by
  obtain ⟨h1, h2, h3, h4, h5, h6, h7, h8, h9⟩ := h
  have hpk := h6 k hk hl0
  refine ⟨by simp [h1], h2, h3, h4, fun j hj hl => ?_, fun j hj hl => ?_, fun j hj hl => ?_, fun j l hj hl hne a1 a2 => ?_, put7_below h9 hpk.2.1 _ _⟩
  · rcases set_true hl with e | hl
    · omega
    · exact h5 j hj hl
  · rcases set_true hl with e | hl
    · omega
    · obtain ⟨g1, g2, g3, g4⟩ := h6 j hj hl
      refine ⟨g1, g2, by rw [put7_size]; exact g3, ?_⟩
      by_cases he : j = k
      · subst he
        exact put7_blk g4 _ _
      · exact g4.blk (put7_heap _ _ _ _ (h8 j k hj hk he hl hl0))
  · by_cases he : j = k
    · subst he
      exact ⟨by rw [Array.getElem?_setIfInBounds_ne (by omega)]; exact hl0, put7_at hpk.2.2.2 _ (by omega)⟩
    · rcases set_true hl with e | hl
      · omega
      · obtain ⟨g1, g2⟩ := h7 j hj hl
        exact ⟨by rw [Array.getElem?_setIfInBounds_ne (by omega)]; exact g1, g2.blk (put7_heap _ _ _ _ (h8 j k hj hk he g1 hl0))⟩
  · rcases set_true a1 with e | a1
    · omega
    · rcases set_true a2 with e | a2
      · omega
      · exact h8 j l hj hl hne a1 a2

/-- Slots filled. -/
def putAll (T : Array Value) : List (Nat × Value) → Array Value
  | [] => T
  | x :: r => putAll (T.setIfInBounds x.1 x.2) r
theorem putAll_out : ∀ (l : List (Nat × Value)) (T : Array Value) (s : Nat), (∀ x ∈ l, x.1 ≠ s) → (putAll T l)[s]? = T[s]?
  | [], T, s, _ => rfl
  | x :: r, T, s, h => by
    rw [putAll, putAll_out r _ s (fun y hy => h y (List.mem_cons_of_mem _ hy))]
    exact put_other (fun e => h x List.mem_cons_self e.symm)
theorem putAll_in : ∀ (l : List (Nat × Value)) (T : Array Value) (s : Nat) (v : Value), s < T.size → (l.map (·.1)).Nodup → (s, v) ∈ l → (putAll T l)[s]? = some v
  | [], T, s, v, _, _, h => by cases h
  | x :: r, T, s, v, hs, hn, h => by
    rw [List.map_cons, List.nodup_cons] at hn
    rw [putAll]
    rcases List.mem_cons.1 h with h | h
    · subst h
      rw [putAll_out r _ s (fun y hy e => hn.1 (by rw [← e]; exact List.mem_map.2 ⟨y, hy, rfl⟩))]
      exact put_same hs
    · exact putAll_in r _ s v (by simpa using hs) hn.2 h
def finL (cb : Nat) (K : Nat → Tk) (p : Nat → Nat) : List (Nat × Value) := (List.range 18).map (fun i => (69 + i, vl cb K i)) ++ (List.range 6).map (fun k => (9 + k, .pointer (some ⟨p k, 0, none⟩)))
theorem finL_nodup (cb : Nat) (K : Nat → Tk) (p : Nat → Nat) : ((finL cb K p).map (·.1)).Nodup := by
  have : (finL cb K p).map (·.1) = (List.range 18).map (fun i => 69 + i) ++ (List.range 6).map (fun k => 9 + k) := by
    unfold finL
    rw [List.map_append, List.map_map, List.map_map]
    rfl
  rw [this]
  decide
/-- The frame behind the region. -/
def fin (T0 : Array Value) (cb : Nat) (K : Nat → Tk) (p : Nat → Nat) : Act := ⟨putAll T0 (finL cb K p), []⟩
/-- The variables behind the region. -/
structure Got (K : Nat → Tk) (w0 : World) (p : Nat → Nat) (w : World) : Prop where
  at_ : ∀ k, k < 6 → w0.heap.size ≤ p k ∧ p k < w.heap.size ∧ TkAt w (p k) 0 (K (2 * k))
  bl : Below w0.heap.size w0 w
theorem fin_eq {T0 : Array Value} {cb : Nat} {K : Nat → Tk} {p : Nat → Nat} {a : Act} (hT : 86 < T0.size) (hd : a.defers = [])
    (ho : ∀ s, (s < 9 ∨ (14 < s ∧ s < 69) ∨ 86 < s) → a.tmps[s]? = T0[s]?) (hv : ∀ i, i < 18 → a.tmps[69 + i]? = some (vl cb K i)) (ha : ∀ k, k < 6 → a.tmps[9 + k]? = some (.pointer (some ⟨p k, 0, none⟩))) : a = fin T0 cb K p := by
  have e : a.tmps = putAll T0 (finL cb K p) := by
    apply Array.ext_getElem?
    intro s
    by_cases h1 : 69 ≤ s ∧ s ≤ 86
    · obtain ⟨i, rfl⟩ : ∃ i, s = 69 + i := ⟨s - 69, by omega⟩
      rw [hv i (by omega), putAll_in _ _ _ _ (by omega) (finL_nodup cb K p) (List.mem_append_left _ (List.mem_map.2 ⟨i, List.mem_range.2 (by omega), rfl⟩))]
    · by_cases h2 : 9 ≤ s ∧ s ≤ 14
      · obtain ⟨k, rfl⟩ : ∃ k, s = 9 + k := ⟨s - 9, by omega⟩
        rw [ha k (by omega), putAll_in _ _ _ _ (by omega) (finL_nodup cb K p) (List.mem_append_right _ (List.mem_map.2 ⟨k, List.mem_range.2 (by omega), rfl⟩))]
      · rw [ho s (by omega), putAll_out]
        intro x hx e
        unfold finL at hx
        rcases List.mem_append.1 hx with hx | hx
        · obtain ⟨i, hi, rfl⟩ := List.mem_map.1 hx
          have := List.mem_range.1 hi
          simp only at e
          omega
        · obtain ⟨i, hi, rfl⟩ := List.mem_map.1 hx
          have := List.mem_range.1 hi
          simp only at e
          omega
  obtain ⟨t, d⟩ := a
  simp only at hd e
  rw [hd, e]
  rfl

theorem eval_tmp {a : Act} {t : Nat} {v : Value} (h : a.tmps[t]? = some v) : a.eval (.tmp t) = v := by
  unfold Act.eval
  simp [Array.getD_eq_getD_getElem?, h]
theorem run_v {P : Program} {w w' : World} {x : Value} {m : Sem Value} (h : m.run P w = .ok x w') : (do pure (Next.value (← m)) : Sem Next).run P w = .ok (.value x) w' := by
  simp [h, Result.andThen]
theorem run_u {P : Program} {w w' : World} {m : Sem Unit} (h : m.run P w = .ok () w') : (do m; pure Next.skip : Sem Next).run P w = .ok .skip w' := by
  simp [h, Result.andThen]
/-- THE REGION: in whatever order the six variables are made and filled, the frame and the variables come out. -/
theorem six_region {ops : Array Oper} {Q : Exit → Act → World → Prop} {T0 : Array Value} {cb : Nat} {K : Nat → Tk} {w0 : World}
    (hsz : ops.size = 30) (hops : ∀ i, i < 30 → (ops[i]?).map (fun o => (o.dst, o.op, o.guard)) = some ((sp i).1, (sp i).2, none))
    (hd1 : ∀ i, i < 30 → ∀ o, ops[i]? = some o → ∀ e ∈ o.after, Region.binds .any e = true → e.on < i)
    (hd2 : ∀ i, i < 30 → ∀ o, ops[i]? = some o → ∀ d ∈ need i, ∃ e ∈ o.after, Region.binds .any e = true ∧ e.on = d)
    (hT : 86 < T0.size) (h7 : T0[7]? = some (.slice (some ⟨cb, 0, none⟩) 11 11)) (hk : Arg w0 cb 0 K 11)
    (hend : ∀ (p : Nat → Nat) (w : World), Got K w0 p w → Q .normal (fin T0 cb K p) w) : wpAny Tryf.prog .any ops Q ops.size (Array.replicate ops.size false) ⟨T0, []⟩ w0 := by
  refine wpAny_inv (fun listed a w => ∃ p, Inv T0 cb K w0 p listed a w) (fun i o ho => hd1 i (by have := (Array.getElem?_eq_some_iff.1 ho).1; omega) o ho) (fun listed a w ⟨p, h⟩ => by rw [h.sz, hsz]) ?_ ?_ _ _ _ _ ⟨fun _ => 0, ?_⟩ ?_
  · intro listed a w i o ⟨p, h⟩ ho hl hdep
    have hi : i < 30 := by have := (Array.getElem?_eq_some_iff.1 ho).1; omega
    have hsp := hops i hi
    rw [ho] at hsp
    simp only [Option.map_some, Option.some.injEq, Prod.mk.injEq] at hsp
    obtain ⟨s1, s2, s3⟩ := hsp
    have hneed : ∀ d ∈ need i, listed[d]? = some true := fun d hd => by
      obtain ⟨e, he, hb, hon⟩ := hd2 i hi o ho d hd
      rw [← hon]
      exact hdep e he hb
    have hw : Region.wanted o (yielded ops a.tmps) = true := by simp [Region.wanted, s3]
    unfold wpOp
    rw [ho]
    simp only [hw, if_true]
    refine .inl ?_
    by_cases c1 : i < 18
    · have s1' : o.dst = some (69 + i) := by
        rw [s1]
        unfold sp
        rw [if_pos c1]
        split
        · rfl
        · split <;> rfl
      have hput : ∃ p, Inv T0 cb K w0 p (listed.setIfInBounds i true) (a.put o.dst (vl cb K i)) w := ⟨p, by rw [s1']; exact h.put c1 hT⟩
      refine wp_val ?_ hput
      by_cases c3 : i % 3 = 0
      · have s2' : o.op = .move (.tmp 7) := by rw [s2]; unfold sp; rw [if_pos c1, if_pos c3]
        rw [BigFrame.run_move (.tmp 7) s2', eval_tmp ((h.oth 7 (by omega)).trans h7)]
        unfold vl
        rw [if_pos c3]
      · have hn1 : listed[i - 1]? = some true := hneed _ (by unfold need; rw [if_pos c1, if_neg c3]; exact List.mem_singleton.2 rfl)
        have hv1 := h.val (i - 1) (by omega) hn1
        rw [show 69 + (i - 1) = 68 + i by omega] at hv1
        by_cases c4 : i % 3 = 1
        · have s2' : o.op = .indexAddr 26 (.tmp (68 + i)) (.const (.int .i64 ((i / 3 * 2 : Nat) : Int))) := by rw [s2]; unfold sp; rw [if_pos c1, if_neg c3, if_pos c4]
          have e1 : vl cb K (i - 1) = .slice (some ⟨cb, 0, none⟩) 11 11 := by unfold vl; rw [if_pos (by omega)]
          rw [e1] at hv1
          have e2 : vl cb K i = .pointer (some ⟨cb, i / 3 * 2 * 7, none⟩) := by unfold vl; rw [if_neg c3, if_pos c4]
          rw [e2]
          unfold execOp
          rw [s2']
          simp only [eval_tmp hv1]
          exact run_v (run_ix cb (i / 3 * 2) w (by omega))
        · have s2' : o.op = .load 37 (.tmp (68 + i)) := by rw [s2]; unfold sp; rw [if_pos c1, if_neg c3, if_neg c4]
          have e1 : vl cb K (i - 1) = .pointer (some ⟨cb, i / 3 * 2 * 7, none⟩) := by
            unfold vl
            rw [if_neg (by omega), if_pos (by omega), show (i - 1) / 3 = i / 3 by omega]
          rw [e1] at hv1
          have e2 : vl cb K i = tkV (K (i / 3 * 2)) := by unfold vl; rw [if_neg c3, if_neg c4]
          rw [e2]
          unfold execOp
          rw [s2']
          simp only [eval_tmp hv1]
          have ht := (hk (i / 3 * 2) (by omega)).up h.bl
          rw [Nat.zero_add] at ht
          exact run_v (run_ld cb _ _ w ht)
    · by_cases c2 : i < 24
      · have s1' : o.dst = some (9 + (i - 18)) := by
          rw [s1]
          unfold sp
          rw [if_neg c1, if_pos c2]
          show some (i - 9) = some (9 + (i - 18))
          rw [show i - 9 = 9 + (i - 18) by omega]
        have s2' : o.op = .alloc 37 := by rw [s2]; unfold sp; rw [if_neg c1, if_pos c2]
        have ha := h.alloc (k := i - 18) (by omega) hT (by rw [show 18 + (i - 18) = i by omega]; exact hl) (cs := #[.pointer none, .string ⟨#[]⟩, .int .i32 0, .int .u32 0, .int .u16 0, .int .u8 0, .int .u8 0]) rfl
        rw [show 18 + (i - 18) = i by omega, ← s1'] at ha
        refine wp_val (x := .pointer (some ⟨w.heap.size, 0, none⟩)) ?_ ⟨_, ha⟩
        unfold execOp
        rw [s2']
        exact run_v (run_al w)
      · have s1' : o.dst = none := by rw [s1]; unfold sp; rw [if_neg c1, if_neg c2]
        have s2' : o.op = .store 37 (.tmp (i - 15)) (.tmp (71 + 3 * (i - 24))) := by rw [s2]; unfold sp; rw [if_neg c1, if_neg c2]
        have hn1 : listed[18 + (i - 24)]? = some true := by
          rw [show 18 + (i - 24) = i - 6 by omega]
          exact hneed _ (by unfold need; rw [if_neg c1, if_neg c2]; simp)
        have hn2 : listed[3 * (i - 24) + 2]? = some true := hneed _ (by unfold need; rw [if_neg c1, if_neg c2]; simp)
        have g1 := h.al (i - 24) (by omega) hn1
        have g2 := h.val (3 * (i - 24) + 2) (by omega) hn2
        have e1 : vl cb K (3 * (i - 24) + 2) = tkV (K (2 * (i - 24))) := by
          unfold vl
          rw [if_neg (by omega), if_neg (by omega), show (3 * (i - 24) + 2) / 3 * 2 = 2 * (i - 24) by omega]
        rw [e1, show 69 + (3 * (i - 24) + 2) = 71 + 3 * (i - 24) by omega] at g2
        have g3 := g1.1
        rw [show 9 + (i - 24) = i - 15 by omega] at g3
        have hs := h.store (k := i - 24) (by omega) hn1
        rw [show 24 + (i - 24) = i by omega] at hs
        refine wp_skip ?_ s1' ⟨_, hs⟩
        unfold execOp
        rw [s2']
        simp only [eval_tmp g3, eval_tmp g2]
        exact run_u (run_st _ _ w g1.2.2.2)
  · intro listed a w ⟨p, h⟩ hall
    rw [hsz] at hall
    rw [fin_eq (p := p) hT h.df h.oth (fun i hi => h.val i hi (hall i (by omega))) (fun k hk => (h.al k hk (hall _ (by omega))).1)]
    exact hend p w ⟨fun k hk => ⟨(h.al k hk (hall _ (by omega))).2.1, (h.al k hk (hall _ (by omega))).2.2.1, (h.st k hk (hall _ (by omega))).2⟩, h.bl⟩
  · have hno : ∀ i, (Array.replicate ops.size false)[i]? ≠ some true := fun i e => by
      rw [Array.getElem?_replicate] at e
      split at e <;> simp at e
    exact ⟨by simp [hsz], rfl, rfl, fun _ _ => rfl, fun i _ e => absurd e (hno _), fun i _ e => absurd e (hno _), fun i _ e => absurd e (hno _), fun k l _ _ _ e _ => absurd e (hno _), Below.refl _ _⟩
  · unfold undone
    refine Nat.le_trans (List.length_filter_le _ _) ?_
    simp
theorem six_region' {ops : Array Oper} {Q : Exit → Act → World → Prop} {T0 : Array Value} {cb : Nat} {K : Nat → Tk} {w0 : World}
    (hops : ops.toList.map (fun o => (o.dst, o.op, o.guard)) = (List.range 30).map (fun i => ((sp i).1, (sp i).2, none)))
    (hd1 : ((List.range 30).all fun i => match ops[i]? with | some o => o.after.all (fun e => !Region.binds .any e || decide (e.on < i)) | none => false) = true)
    (hd2 : ((List.range 30).all fun i => match ops[i]? with | some o => (need i).all (fun d => o.after.any fun e => Region.binds .any e && (e.on == d)) | none => false) = true)
    (hT : 86 < T0.size) (h7 : T0[7]? = some (.slice (some ⟨cb, 0, none⟩) 11 11)) (hk : Arg w0 cb 0 K 11)
    (hend : ∀ (p : Nat → Nat) (w : World), Got K w0 p w → Q .normal (fin T0 cb K p) w) : wpAny Tryf.prog .any ops Q ops.size (Array.replicate ops.size false) ⟨T0, []⟩ w0 := by
  have hsz : ops.size = 30 := by
    have := congrArg List.length hops
    simpa using this
  refine six_region hsz (fun i hi => ?_) (fun i hi o ho e he hb => ?_) (fun i hi o ho d hd => ?_) hT h7 hk hend
  · have := congrArg (fun l => l[i]?) hops
    simp only [List.getElem?_map, List.getElem?_range hi, Option.map_some, Array.getElem?_toList] at this
    exact this
  · have h1 := List.all_eq_true.1 hd1 i (List.mem_range.2 hi)
    rw [ho] at h1
    have h2 := Array.all_eq_true_iff_forall_mem.1 h1 e he
    rw [hb] at h2
    simpa using h2
  · have h1 := List.all_eq_true.1 hd2 i (List.mem_range.2 hi)
    rw [ho] at h1
    have h2 := List.all_eq_true.1 h1 d hd
    obtain ⟨e, he, h3⟩ := Array.any_eq_true'.1 h2
    simp only [Bool.and_eq_true, beq_iff_eq] at h3
    exact ⟨e, he, h3.1, h3.2⟩
end Go.Proofs.YtjanppdeddfehaaFmt
