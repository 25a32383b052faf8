/-
  Two builders side by side, each written in turn; conditions: those that each lemma names.
-/
import Derived.Test.YtmnoffiblcnjpaaElm
import Derived.Test.YtmnoffiblcnjpaaBldk
import Derived.Maps.AppendAt
namespace Go.Proofs.Ytmnoffiblcnjpaa
open Go.RowKit

/-- A builder whose buffer is the slice v. -/
structure BV (B b : Nat) (v : Value) (l : List UInt8) (w : World) : Prop where
  le : B ≤ b
  at_ : ∃ p, (p = Value.pointer none ∨ p = Value.pointer (some ⟨b, 0, none⟩)) ∧ w.heap[b]? = some (.cells #[p, v] 45 (0, 0))
  own : w.ownsRow B 5 1 v (Lib.byteCells l).length (Lib.byteCells l)
  ne : v.ownBlock ≠ some b
theorem BV.bld {B b : Nat} {v : Value} {l : List UInt8} {w : World} (h : BV B b v l w) : Bld B b l w := by
  obtain ⟨p, hp | hp, hc⟩ := h.at_
  · subst hp
    exact .inl ⟨h.le, v, hc, h.own, h.ne⟩
  · subst hp
    exact .inr ⟨h.le, v, hc, h.own, h.ne⟩
/-- Beside the builder b and its buffer nothing that lay in w has changed. -/
structure Mv (b : Nat) (v : Value) (w w' : World) : Prop where
  os : w'.os = w.os
  tape : w'.tape = w.tape
  output : w'.output = w.output
  size : w.heap.size ≤ w'.heap.size
  block : ∀ k, k < w.heap.size → k ≠ b → v.ownBlock ≠ some k → w'.heap[k]? = w.heap[k]?
theorem check_v (B b : Nat) (v : Value) (l : List UInt8) (w : World) (h : BV B b v l w) : Calls Try.prog 21 #[.pointer (some ⟨b, 0, none⟩)] w fun e w' =>
    e = .returned (.tuple #[]) ∧ w'.heap[b]? = some (.cells #[.pointer (some ⟨b, 0, none⟩), v] 45 (0, 0)) ∧ Gs b w w' := by
  obtain ⟨p, hp | hp, hc⟩ := h.at_
  · subst hp
    refine (check_new b w (Lib.cell_of_heap hc 0) (by simp [World.shape?, hc]) (Lib.frozen_of_heap hc 0)).mono ?_
    rintro e w' ⟨rfl, rfl⟩
    refine ⟨rfl, by simp [World.setCell, Array.getElem?_modify, hc], (Gs.refl _ _).set _ _⟩
  · subst hp
    refine (check_old b w (Lib.cell_of_heap hc 0)).mono ?_
    rintro e w' ⟨rfl, rfl⟩
    exact ⟨rfl, hc, Gs.refl _ _⟩
set_option maxHeartbeats 2000000 in
set_option maxRecDepth 100000 in
theorem writeByte_v (B b : Nat) (v : Value) (l : List UInt8) (x : UInt8) (c : Int) (hc : c = (x.toNat : Int)) (w : World) (h : BV B b v l w) (hlen : l.length + 1 ≤ 140737488355328) (hBw : B ≤ w.heap.size) :
    Calls Try.prog 13 #[.pointer (some ⟨b, 0, none⟩), .int .u8 c] w fun e w' => e = .returned .nilIface ∧ ∃ v', BV B b v' (l ++ [x]) w' ∧ (v'.ownBlock = v.ownBlock ∨ ∃ k, v'.ownBlock = some k ∧ w.heap.size ≤ k) ∧ Mv b v w w' := by
  obtain ⟨i0, hi, hz0, hz1, hz2⟩ := info_parts bld_byte
  have HI := Lib.hid (And.intro hi (And.intro hz0 (And.intro hz1 hz2)))
  have HL := Lib.hid (show (Lib.byteCells l).length + 1 ≤ 140737488355328 by rw [Lib.byteCells_length]; exact hlen)
  have HC := Lib.hid hc
  have H := Lib.hid h
  clear hi hz0 hz1 hz2 hlen hc h
  go_enter Try.func13, Try.ntmps13
  go_wp2_with fail
  refine (check_v B b v l _ H.out).mono ?_
  rintro e w1 ⟨rfl, hbk, hg1⟩
  have hown : w1.ownsRow B 5 1 v (Lib.byteCells l).length (Lib.byteCells l) := H.out.own.kept (row := some b) ⟨hg1.os, hg1.tape, hg1.output, by rw [hg1.size]; exact Nat.le_refl _, fun k _ hk => hg1.block k (fun e => hk (by rw [e]))⟩ (.inr H.out.ne)
  have hs1 : w1.heap.size = w.heap.size := hg1.size
  have HG := Lib.hid (And.intro hg1 hs1)
  clear hg1 hs1
  have c1 : w1.cell? ⟨b, 1, none⟩ = some v := Lib.cell_of_heap hbk 1
  go_wp2_with (at_builtin; refine wpList_append_own_at _ rfl _ _ 43 rfl B 5 i0 (.int .u8 0) 1 1 Try.underlying43 HI.out.1 HI.out.2.1 HI.out.2.2.1 HI.out.2.2.2 rfl (by decide) _ _ _ rfl (hown.alloc _) ⟨w1.heap.size, 0, none⟩ 1 1 [.int .u8 c] rfl rfl ?a1 ?a2 ?a3 ?a4 ?a5 ?_)
  case a1 =>
    intro j u hj
    have hj0 : j = 0 := by have := (List.getElem?_eq_some_iff.1 hj).1; simp at this; omega
    subst hj0
    injection hj with hj
    subst hj
    simp [Addr.add]
  case a2 => intro u hu; rw [List.mem_singleton] at hu; subst hu; rfl
  case a3 => have := HL.out; unfold maxLen; omega
  case a4 => have := HL.out; omega
  case a5 => have := HG.out.2; simp; omega
  intro v' w2 hown' hgrow _ hwh
  have hb2 : w2.heap[b]? = some (.cells #[.pointer (some ⟨b, 0, none⟩), v] 45 (0, 0)) := ((hgrow.block b (by have := bld_lt hbk; simp; omega) fun e => H.out.ne e.symm).trans (Below.heap_alloc _ _ b (bld_lt hbk))).trans hbk
  have HW := Lib.hid (And.intro hgrow (And.intro hwh hown'))
  have d1 : w2.cell? ⟨b, 1, none⟩ = some v := Lib.cell_of_heap hb2 1
  have f1 : w2.frozen? ⟨b, 1, none⟩ = false := Lib.frozen_of_heap hb2 1
  obtain ⟨ao, n', cap, rfl⟩ : ∃ ao n' cap, v' = .slice ao n' cap := by
    rcases hown'.2 with ⟨e, _⟩ | ⟨g, cap, cur, e, _⟩ <;> exact ⟨_, _, _, e⟩
  clear hgrow hwh hown'
  go_wp2
  go_ret
  have hl2 : Lib.byteCells (l ++ [x]) = Lib.byteCells l ++ [.int .u8 c] := by
    rw [Lib.byteCells_append, show Lib.byteCells [x] = [.int .u8 c] by rw [HC.out]; rfl]
  have hP := Lib.BuilderAt.put H.out.le hb2 (bs' := Lib.byteCells l ++ [.int .u8 c]) (by simpa using HW.out.2.2) (by decide)
  rw [← hl2] at hP
  obtain ⟨_, v2, hv2, ho2, hn2⟩ := hP
  have hv : v2 = .slice ao n' cap := by
    have e : (w2.setCell ⟨b, 1, none⟩ (.slice ao n' cap)).heap[b]? = some (.cells #[.pointer (some ⟨b, 0, none⟩), .slice ao n' cap] 45 (0, 0)) := by simp [World.setCell, Array.getElem?_modify, hb2]
    rw [hv2] at e
    injection e with e
    injection e with e
    have := congrArg (·[1]?) e
    simpa using this
  subst hv
  refine ⟨rfl, .slice ao n' cap, ⟨H.out.le, ⟨_, .inr rfl, hv2⟩, ho2, hn2⟩, ?_, ?_⟩
  · rcases HW.out.2.1 with e | e
    · exact .inl e
    · exact .inr ⟨_, e, by have := HG.out.2; simp; omega⟩
  · have hg := HW.out.1
    have h1 := HG.out.1
    have h2 := HG.out.2
    refine ⟨hg.os.trans h1.os, hg.tape.trans h1.tape, hg.output.trans h1.output, ?_, fun k hk hkb hkv => ?_⟩
    · have := hg.size
      simp [World.setCell] at this ⊢
      omega
    · rw [Below.heap_setCell w2 ⟨b, 1, none⟩ _ k hkb, hg.block k (by simp; omega) (fun e => hkv e.symm), Below.heap_alloc _ _ k (by omega), h1.block k hkb]
/-- Two builders, b1 with l1 and b2 with l2, whose buffers lie apart. -/
def Tw (B b1 b2 : Nat) (l1 l2 : List UInt8) (w : World) : Prop :=
  ∃ v1 v2, BV B b1 v1 l1 w ∧ BV B b2 v2 l2 w ∧ b1 ≠ b2 ∧ v1.ownBlock ≠ some b2 ∧ v2.ownBlock ≠ some b1 ∧ ∀ k, v1.ownBlock = some k → v2.ownBlock ≠ some k
theorem Tw.symm {B b1 b2 : Nat} {l1 l2 : List UInt8} {w : World} (h : Tw B b1 b2 l1 l2 w) : Tw B b2 b1 l2 l1 w := by
  obtain ⟨v1, v2, h1, h2, h3, h4, h5, h6⟩ := h
  exact ⟨v2, v1, h2, h1, h3.symm, h5, h4, fun k a b => h6 k b a⟩
theorem BV.lt {B b : Nat} {v : Value} {l : List UInt8} {w : World} (h : BV B b v l w) : b < w.heap.size := by
  obtain ⟨p, _, hc⟩ := h.at_
  exact bld_lt hc
theorem tw_one {B b1 b2 : Nat} {l1 l2 : List UInt8} (x : UInt8) (c : Int) (hc : c = (x.toNat : Int)) (w : World) (h : Tw B b1 b2 l1 l2 w) (hlen : l1.length + 1 ≤ 140737488355328) (hBw : B ≤ w.heap.size) :
    Calls Try.prog 13 #[.pointer (some ⟨b1, 0, none⟩), .int .u8 c] w fun e w' => e = .returned .nilIface ∧ Tw B b1 b2 (l1 ++ [x]) l2 w' ∧ Below B w w' := by
  obtain ⟨v1, v2, h1, h2, h3, h4, h5, h6⟩ := h
  refine (writeByte_v B b1 v1 l1 x c hc w h1 hlen hBw).mono ?_
  rintro e w' ⟨rfl, v', hv', hwh, hm⟩
  have hl2 := h2.own.lt
  refine ⟨rfl, ⟨v', v2, hv', ?_, h3, ?_, h5, ?_⟩, ⟨hm.os, hm.tape, hm.output, hm.size, fun k hk => hm.block k (by omega) (by have := h1.le; omega) (fun e => by have := (h1.own.lt k e).1; omega)⟩⟩
  · refine ⟨h2.le, ?_, ?_, h2.ne⟩
    · obtain ⟨p, hp, hq⟩ := h2.at_
      exact ⟨p, hp, by rw [hm.block b2 h2.lt h3.symm h4]; exact hq⟩
    · refine ⟨h2.own.1, ?_⟩
      rcases h2.own.2 with hn | ⟨g, cap, cur, hv, hbg, hg, rest⟩
      · exact .inl hn
      · have ho : v2.ownBlock = some g := by rw [hv]; rfl
        exact .inr ⟨g, cap, cur, hv, hbg, by rw [hm.block g (hl2 g ho).2 (fun e => h5 (by rw [ho, e])) (fun e => h6 g e ho)]; exact hg, rest⟩
  · rcases hwh with e | ⟨k, e, hk⟩
    · rw [e]; exact h4
    · rw [e]
      intro e2
      have := h2.lt
      injection e2 with e2
      omega
  · intro k hk e2
    rcases hwh with e | ⟨k2, e, hk2⟩
    · exact h6 k (by rw [← e]; exact hk) e2
    · rw [e] at hk
      injection hk with hk
      have := (hl2 k e2).2
      omega
theorem tw_two {B b1 b2 : Nat} {l1 l2 : List UInt8} (x : UInt8) (c : Int) (hc : c = (x.toNat : Int)) (w : World) (h : Tw B b1 b2 l1 l2 w) (hlen : l2.length + 1 ≤ 140737488355328) (hBw : B ≤ w.heap.size) :
    Calls Try.prog 13 #[.pointer (some ⟨b2, 0, none⟩), .int .u8 c] w fun e w' => e = .returned .nilIface ∧ Tw B b1 b2 l1 (l2 ++ [x]) w' ∧ Below B w w' := by
  refine (tw_one x c hc w h.symm hlen hBw).mono ?_
  rintro e w' ⟨rfl, h1, h2⟩
  exact ⟨rfl, h1.symm, h2⟩
/-- Two new builders. -/
theorem tw_new (w : World) {W : World} (hW : W = (w.alloc (.cells #[.pointer none, .slice none 0 0] 45)).alloc (.cells #[.pointer none, .slice none 0 0] 45)) : Tw w.heap.size w.heap.size (w.heap.size + 1) [] [] W ∧ Below w.heap.size w W := by
  subst hW
  have h0 : ((w.alloc (.cells #[.pointer none, .slice none 0 0] 45)).alloc (.cells #[.pointer none, .slice none 0 0] 45)).heap[w.heap.size]? = some (.cells #[.pointer none, .slice none 0 0] 45) := by
    rw [Below.heap_alloc _ _ _ (by simp)]; exact heap_alloc_new w _
  have h1 : ((w.alloc (.cells #[.pointer none, .slice none 0 0] 45)).alloc (.cells #[.pointer none, .slice none 0 0] 45)).heap[w.heap.size + 1]? = some (.cells #[.pointer none, .slice none 0 0] 45) := by
    have := heap_alloc_new (w.alloc (.cells #[.pointer none, .slice none 0 0] 45)) (.cells #[.pointer none, .slice none 0 0] 45)
    simpa using this
  refine ⟨⟨.slice none 0 0, .slice none 0 0, ⟨Nat.le_refl _, ⟨_, .inl rfl, h0⟩, ⟨rfl, .inl ⟨rfl, rfl⟩⟩, by simp [Value.ownBlock]⟩, ⟨Nat.le_succ _, ⟨_, .inl rfl, h1⟩, ⟨rfl, .inl ⟨rfl, rfl⟩⟩, by simp [Value.ownBlock]⟩, by omega, by simp [Value.ownBlock], by simp [Value.ownBlock], fun k hk => by simp [Value.ownBlock] at hk⟩, ((Below.refl _ _).alloc (Nat.le_refl _) _).alloc (by simp) _⟩
theorem Tw.bld {B b1 b2 : Nat} {l1 l2 : List UInt8} {w : World} (h : Tw B b1 b2 l1 l2 w) : Bld B b1 l1 w ∧ Bld B b2 l2 w := by
  obtain ⟨v1, v2, h1, h2, _⟩ := h
  exact ⟨h1.bld, h2.bld⟩
end Go.Proofs.Ytmnoffiblcnjpaa
