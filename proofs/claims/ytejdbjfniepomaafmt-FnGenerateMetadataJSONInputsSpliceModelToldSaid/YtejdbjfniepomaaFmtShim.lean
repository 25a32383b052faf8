/-
  The contract of the shim that builds a bundle and asks for its metafile; conditions: the sizes that it names.
-/
import Derived.Test.YtejdbjfniepomaaFmtJson
namespace Go.Proofs.YtejdbjfniepomaaFmt
open Go.RowKit

noncomputable def z56 : Value := ((Tryf.prog.info? 56).bind (·.zero)).getD .nilIface
noncomputable def by56 : Nat := ((Tryf.prog.info? 56).map (·.bytes)).getD 0
theorem info56 : (Tryf.prog.info? 56).map (fun i => (i.zero, i.size, i.bytes)) = some (some z56, 20, by56) := by kernel_rfl
theorem by56_le : Nat.ble by56 4096 = true := by kernel_rfl
theorem z56_size : z56.cells.size = 20 := by kernel_rfl
theorem z56_0 : z56.cells[0]? = some (.string ⟨#[]⟩) := by kernel_rfl
theorem z56_19 : z56.cells[19]? = some (.bool false) := by kernel_rfl
noncomputable def R56 (j : Nat) : Value := (z56.cells[j % 20]?).getD .nilIface

theorem fc_zero (i : Nat) : z56.cells[i % 20]? = some (fc [] [] R56 i) := by
  unfold fc
  by_cases h0 : i % 20 = 0
  · rw [if_pos h0, h0, z56_0]
    rfl
  · rw [if_neg h0]
    by_cases h1 : i % 20 = 19
    · rw [if_pos h1, h1, z56_19]
      rfl
    · rw [if_neg h1]
      unfold R56
      rw [Array.getElem?_eq_getElem (by rw [z56_size]; omega)]
      rfl
theorem take_get {α : Type} (xs : List α) (k i : Nat) (d : α) : (xs.take k).getD i d = if i < k then xs.getD i d else d := by
  rw [List.getD_eq_getElem?_getD, List.getElem?_take]
  split
  · rw [List.getD_eq_getElem?_getD]
  · rfl
theorem fc_next {ss : List ByteArray} {om : List Bool} {R : Nat → Value} {k : Nat} {s : ByteArray} {b : Bool} (hs : ss[k]? = some s) (hb : om[k]? = some b) (j : Nat) :
    (if j = k * 20 + 19 then Value.bool b else if j = k * 20 then Value.string s else fc (ss.take k) (om.take k) R j) = fc (ss.take (k + 1)) (om.take (k + 1)) R j := by
  have es : ss.getD k ⟨#[]⟩ = s := by rw [List.getD_eq_getElem?_getD, hs]; rfl
  have eb : om.getD k false = b := by rw [List.getD_eq_getElem?_getD, hb]; rfl
  by_cases h1 : j = k * 20 + 19
  · subst h1
    rw [if_pos rfl]
    unfold fc
    rw [if_neg (by omega), if_pos (by omega), show (k * 20 + 19) / 20 = k by omega, take_get, if_pos (by omega), eb]
  · rw [if_neg h1]
    by_cases h2 : j = k * 20
    · subst h2
      rw [if_pos rfl]
      unfold fc
      rw [if_pos (by omega), show k * 20 / 20 = k by omega, take_get, if_pos (by omega), es]
    · rw [if_neg h2]
      unfold fc
      by_cases h3 : j % 20 = 0
      · rw [if_pos h3, if_pos h3, take_get, take_get]
        by_cases h4 : j / 20 < k
        · rw [if_pos h4, if_pos (by omega)]
        · rw [if_neg h4, if_neg (by omega)]
      · rw [if_neg h3, if_neg h3]
        by_cases h5 : j % 20 = 19
        · rw [if_pos h5, if_pos h5, take_get, take_get]
          by_cases h4 : j / 20 < k
          · rw [if_pos h4, if_pos (by omega)]
          · rw [if_neg h4, if_neg (by omega)]
        · rw [if_neg h5, if_neg h5]

def ShimRel (ss : List ByteArray) (om : List Bool) (n : Nat) (w : World) (s : Value) (wr : World) : Prop :=
  ∃ k : Nat, k ≤ n ∧ s = .int .i64 k ∧ Row wr w.heap.size 56 (n * 20) (fc (ss.take k) (om.take k) R56) ∧ Below w.heap.size w wr

theorem built116 : Tryf.prog.built 116 [] = some Tryf.zeroCells116 := by kernel_rfl
theorem opt88 : Tryf.zeroCells116[88]? = some (.int .u8 0) := by kernel_rfl

set_option maxHeartbeats 4000000 in
set_option maxRecDepth 100000 in
theorem shim_any (a0 a1 a2 : Option Addr) (n c0 c1 l2 c2 : Nat) (ss : List ByteArray) (om : List Bool) (zs : List Int) (w : World)
    (h0 : InRow w a0 n c0 (ss.map Value.string)) (h1 : InRow w a1 n c1 (om.map Value.bool)) (hs : Small ss)
    (h2 : InRow w a2 l2 c2 (zs.map (Value.int .u32))) (hz : ∀ z ∈ zs, (Lit.int .u32 z).wf = true) (hin : ∀ z ∈ zs, z.toNat < n) (hun : unfoldSize (lst ss) (nat zs) ≤ 1048576) (hl2 : l2 ≤ 262144) (hn : n ≤ 1048576) :
    Calls Tryf.prog 11 #[.slice a0 n c0, .slice a1 n c1, .slice a2 l2 c2] w fun e w' => e = .returned (.string (S (metaText (kept (lst ss) om (nat zs))))) ∧ Below w.heap.size w w' := by
  obtain ⟨i0, hi, hz0, hz1, hz2⟩ := info_parts info56
  have hby := Nat.le_of_ble_eq_true by56_le
  have HI := Lib.hid (And.intro hi (And.intro hz0 (And.intro hz1 hz2)))
  have hl0 := h0.len
  have hl1 := h1.len
  rw [List.length_map] at hl0 hl1
  have H := Lib.hid (And.intro h0 (And.intro h1 h2))
  have HP := Lib.hid (And.intro hl0 (And.intro hl1 (And.intro hs (And.intro hz (And.intro hin hun)))))
  clear hi hz0 hz1 hz2 hl0 hl1 h0 h1 h2 hs hz hin hun
  have hmul : by56 * n ≤ 4096 * 1048576 := Nat.mul_le_mul hby hn
  go_enter Tryf.func11, Tryf.ntmps11
  go_wp2_with (at_make; refine wpList_make_full _ rfl (.tmp 11) (.tmp 11) 34 rfl w.heap.size 56 i0 z56 20 Tryf.underlying34 HI.out.1 HI.out.2.1 HI.out.2.2.1 _ _ _ _ n rfl rfl rfl rfl (by rw [HI.out.2.2.2]; omega) (by unfold maxLen; omega) (Nat.le_refl _) ?_; intro w2 hown hgrow)
  have r0 : Row w2 w.heap.size 56 (n * 20) (fc (ss.take 0) (om.take 0) R56) := row_made (size := 20) z56_size (by decide) _ (fun i _ => fc_zero i) hown
  have hb2 : Below w.heap.size w w2 := (Below.refl _ _).grown hgrow (Nat.le_refl _) (fun k hk => by cases hk)
  have HR := Lib.hid (And.intro r0 hb2)
  clear r0 hb2 hown hgrow hmul hby
  go_loopw [8] (fun s8 wr => ShimRel ss om n w s8 wr) (fun s8 _ => n - (intOf s8).toNat)
  case atStart => exact ⟨0, Nat.zero_le _, rfl, HR.out⟩
  case round =>
    obtain ⟨k, hk, rfl, hr, hb⟩ := hrel
    have HRB := Lib.hid (And.intro hr hb)
    by_cases hlt : k < n
    · obtain ⟨x, s, rfl, hsk, hc0⟩ := (H.out.1.up hb).get hlt
      obtain ⟨y, b, rfl, hbk, hc1⟩ := (H.out.2.1.up hb).get hlt
      have q0 := hr.cell (i := k * 20) (by omega)
      have q1 := hr.cell (i := k * 20 + 19) (by omega)
      have f0 := hr.frozen (k * 20)
      have f1 := hr.frozen (k * 20 + 19)
      have hrl := hr.lt
      have hy : (wr.setCell ⟨w.heap.size, k * 20, none⟩ (.string s)).cell? (y.add k) = some (.bool b) := by
        obtain ⟨y', b', e1, _, e3⟩ := H.out.2.1.get hlt
        obtain rfl : y = y' := Option.some.inj e1
        have hlt := World.block_lt_of_cell? w _ e3
        rw [World.cell?_setCell_other wr ⟨w.heap.size, k * 20, none⟩ (y.add k) _ (fun e => by
          have := congrArg Addr.block e
          simp only at this
          omega)]
        exact hc1
      have HK := Lib.hid (And.intro hsk hbk)
      clear hsk hbk hr hb
      go_wp2_with fail
      refine ⟨⟨k + 1, by omega, by go_num, ((HRB.out.1.set _ _).set _ _).congr (fun j _ => fc_next HK.out.1 HK.out.2 j), (HRB.out.2.setCell (p := ⟨w.heap.size, k * 20, none⟩) (Nat.le_refl _) _).setCell (p := ⟨w.heap.size, k * 20 + 19, none⟩) (Nat.le_refl _) _⟩, by simp [intOf]; omega⟩
    · have hkn : k = n := by omega
      have hfin : Row wr w.heap.size 56 (n * 20) (fc ss om R56) := by
        have := hr
        rw [hkn, List.take_of_length_le (by have := HP.out.1; omega), List.take_of_length_le (by have := HP.out.2.1; omega)] at this
        exact this
      have hrl := hr.lt
      have HF := Lib.hid (And.intro hfin hb)
      clear hr hb hfin hkn
      go_wp2_with fail
      refine wp_build 116 #[] rfl (by kernel_rfl) ?_
      simp only [Array.map_empty, Array.toList_empty, built116, Option.getD_some]
      go_wp2_with fail
      refine (json_any _ _ w.heap.size n _ _ _ ss om zs R56 _ ?c1 ?c2 ((HF.out.1.alloc _).alloc _) HP.out.1 HP.out.2.1 HP.out.2.2.1 (((H.out.2.2.up HF.out.2).up ((Below.refl _ _).alloc (Nat.le_refl _) _)).up ((Below.refl _ _).alloc (Nat.le_refl _) _)) HP.out.2.2.2.1 HP.out.2.2.2.2.1 HP.out.2.2.2.2.2 hl2).mono ?_
      case c1 =>
        have e : ((wr.alloc (.cells (Tryf.zeroCells118.setIfInBounds 3 (.slice (some ⟨w.heap.size, 0, none⟩) n n)) 118)).alloc (.cells Tryf.zeroCells116 116)).cell? ⟨wr.heap.size, 3, none⟩ = (Tryf.zeroCells118.setIfInBounds 3 (.slice (some ⟨w.heap.size, 0, none⟩) n n))[3]? := by
          rw [cell_of_row _ wr.heap.size 3 _ 118 (0, 0) ((Below.heap_alloc _ _ _ (by simp)).trans (heap_alloc_new wr _))]
        rw [e, Array.getElem?_setIfInBounds, if_pos rfl, if_pos (by rw [Tryf.zeroCells118_size]; decide)]
      case c2 =>
        rw [cell_of_row _ (wr.heap.size + 1) 88 _ 116 (0, 0) (by
          have := heap_alloc_new (wr.alloc (.cells (Tryf.zeroCells118.setIfInBounds 3 (.slice (some ⟨w.heap.size, 0, none⟩) n n)) 118)) (.cells Tryf.zeroCells116 116)
          simpa using this)]
        exact opt88
      rintro e w3 ⟨rfl, hb3⟩
      have hs3 := HF.out.2.size
      go_wp2_with fail
      go_ret
      exact ⟨rfl, ((HF.out.2.alloc hs3 _).alloc (by simp; omega) _).trans (hb3.mono (by simp; omega))⟩

end Go.Proofs.YtejdbjfniepomaaFmt
