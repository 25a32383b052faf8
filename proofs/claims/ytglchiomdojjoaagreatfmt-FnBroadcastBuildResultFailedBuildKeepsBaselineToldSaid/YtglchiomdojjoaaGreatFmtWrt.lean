/-
  The builder's Write of a row of bytes; conditions: those that each lemma names.
-/
import Derived.Test.YtglchiomdojjoaaGreatFmtBldk
namespace Go.Proofs.YtglchiomdojjoaaGreatFmt
open Go.RowKit

/-- The slice v shows the bytes s. -/
def Shows (v : Value) (s : List UInt8) (w : World) : Prop := ∃ g n cap, v = .slice (some ⟨g, 0, none⟩) n cap ∧ n = s.length ∧ ∀ j c, s[j]? = some c → w.cell? ⟨g, j, none⟩ = some (.int .u8 (c.toNat : Int))
theorem buf_shows {B : Nat} {v : Value} {s : List UInt8} {W w : World} (h : Buf B 5 v s W w) (h0 : s ≠ []) : Shows v s w := by
  obtain ⟨hl, ⟨rfl, hz⟩ | ⟨g, cap, cur, fz, rfl, hb, hg, hfz, hn, hcap, hcs, htake⟩⟩ := h.1
  · exact absurd (List.eq_nil_of_length_eq_zero hz) h0
  · refine ⟨g, _, cap, rfl, rfl, fun j c hc => ?_⟩
    have hj : j < s.length := (List.getElem?_eq_some_iff.1 hc).1
    rw [Lib.cell_of_heap hg j]
    have e : (bc s)[j]? = some (.int .u8 (c.toNat : Int)) := by unfold bc; rw [List.getElem?_map, hc]; rfl
    rw [← htake, List.getElem?_take_of_lt (by omega)] at e
    rw [← Array.getElem?_toList]
    exact e
theorem Shows.below {B : Nat} {v : Value} {s : List UInt8} {w w' : World} (h : Shows v s w) (hb : Below B w w') (hB : ∀ g, v.ownBlock = some g → g < B) : Shows v s w' := by
  obtain ⟨g, n, cap, rfl, hn, hc⟩ := h
  exact ⟨g, n, cap, rfl, hn, fun j c hj => by rw [hb.cell (p := ⟨g, j, none⟩) (hB g rfl)]; exact hc j c hj⟩
theorem check_g (B b : Nat) (bs : List Value) (w : World) (h : Lib.IsBuilder 88 5 B b bs w) : Calls Tryz.prog 47 #[.pointer (some ⟨b, 0, none⟩)] w fun e w' =>
    e = .returned (.tuple #[]) ∧ Lib.BuilderAt 88 5 B b (.pointer (some ⟨b, 0, none⟩)) bs w' ∧ Below B w w' ∧ ∀ k, k ≠ b → w'.heap[k]? = w.heap[k]? := by
  cases h with
  | inl h => exact (check_new b w h.cell0 h.shape h.frozen0).mono fun e w' ⟨he, hw⟩ => ⟨he, hw ▸ h.used _, hw ▸ (Below.refl B w).setCell (p := ⟨b, 0, none⟩) h.1 _, fun k hk => by rw [hw]; exact Below.heap_setCell w ⟨b, 0, none⟩ _ k hk⟩
  | inr h => exact (check_old b w h.cell0).mono fun e w' ⟨he, hw⟩ => ⟨he, hw ▸ h, hw ▸ Below.refl B w, fun k _ => by rw [hw]⟩
set_option maxHeartbeats 2000000 in
set_option maxRecDepth 100000 in
theorem write_any (B b : Nat) (l s : List UInt8) (v : Value) (w : World) (h : Bld B b l w) (hv : Shows v s w) (hne : ∀ g, v.ownBlock = some g → g ≠ b) (hlen : l.length + s.length ≤ 140737488355328) (hBw : B ≤ w.heap.size) :
    Calls Tryz.prog 36 #[.pointer (some ⟨b, 0, none⟩), v] w fun e w' => (∃ k : Int, e = .returned (.tuple #[.int .i64 k, .nilIface])) ∧ Bld B b (l ++ s) w' ∧ Below B w w' := by
  obtain ⟨i0, hi, hz0, hz1, hz2⟩ := info_parts bld_byte
  have HI := Lib.hid (And.intro hi (And.intro hz0 (And.intro hz1 hz2)))
  have HL := Lib.hid (show (Lib.byteCells l).length + s.length ≤ 140737488355328 by rw [Lib.byteCells_length]; exact hlen)
  obtain ⟨g, n, cap, rfl, hn, hc⟩ := hv
  have HC := Lib.hid (And.intro hc (And.intro (hne g rfl) hn))
  clear hi hz0 hz1 hz2 hlen hc hne hn
  go_enter Tryz.func36, Tryz.ntmps36
  go_wp2_with fail
  refine (check_g B b _ _ h).mono ?_
  rintro e w1 ⟨rfl, ⟨hB, v, hbk, hown, hne⟩, hb1, hk1⟩
  have hc2 : ∀ j u, (bc s)[j]? = some u → w1.cell? ((⟨g, 0, none⟩ : Addr).add j) = some u := fun j u hu => by
    unfold bc at hu
    rw [List.getElem?_map, Option.map_eq_some_iff] at hu
    obtain ⟨c, hj, rfl⟩ := hu
    have e : (⟨g, 0, none⟩ : Addr).add j = ⟨g, j, none⟩ := by
      unfold Addr.add
      split
      · next h0 => rw [h0]
      · simp
    rw [e, World.cell?_of_block (a := ⟨g, j, none⟩) (hk1 g HC.out.2.1)]
    exact HC.out.1 j c hj
  have HS := Lib.hid hc2
  have hsz := hb1.size
  have HB := Lib.hid hb1
  clear hc2 hk1 hb1 h
  have c1 : w1.cell? ⟨b, 1, none⟩ = some v := Lib.cell_of_heap hbk 1
  go_wp2_with (at_builtin; refine wpList_append_own _ rfl _ _ 74 rfl B 5 i0 (.int .u8 0) 1 1 Tryz.underlying74 HI.out.1 HI.out.2.1 HI.out.2.2.1 HI.out.2.2.2 rfl (by decide) _ _ _ rfl hown ⟨g, 0, none⟩ n cap (bc s) rfl (by rw [bc_length, HC.out.2.2]; omega) HS.out ?a2 ?a3 ?a4 ?a5 ?_)
  case a2 =>
    intro u hu
    unfold bc at hu
    obtain ⟨c, _, rfl⟩ := List.mem_map.1 hu
    rfl
  case a3 => have := HL.out; have := HC.out.2.2; unfold maxLen; omega
  case a4 => have := HL.out; have := HC.out.2.2; omega
  case a5 => omega
  intro v' w2 hown' hgrow _
  have hb2 : w2.heap[b]? = some (.cells #[.pointer (some ⟨b, 0, none⟩), v] 88 (0, 0)) := (hgrow.block b (bld_lt hbk) fun e => hne e.symm).trans hbk
  have d1 : w2.cell? ⟨b, 1, none⟩ = some v := Lib.cell_of_heap hb2 1
  have f1 : w2.frozen? ⟨b, 1, none⟩ = false := Lib.frozen_of_heap hb2 1
  obtain ⟨ao, n', cap', rfl⟩ : ∃ ao n' cap, v' = .slice ao n' cap := by
    rcases hown'.2 with ⟨e, _⟩ | ⟨g, cap, cur, e, _⟩ <;> exact ⟨_, _, _, e⟩
  have HO := Lib.hid (And.intro hown' (And.intro hgrow hown))
  clear hown' hgrow hown
  go_wp2
  go_ret2
  refine ⟨⟨_, rfl⟩, .inr ?_, ((HB.out.grown HO.out.2.1 (by omega) (fun k hk => (HO.out.2.2.lt k hk).1)).setCell (p := ⟨b, 1, none⟩) hB _)⟩
  have e1 : Lib.byteCells (l ++ s) = Lib.byteCells l ++ bc s := by rw [Lib.byteCells_append]; rfl
  rw [e1]
  have e2 : (Lib.byteCells l).length + n = (Lib.byteCells l ++ bc s).length := by rw [List.length_append, bc_length, HC.out.2.2]
  exact Lib.BuilderAt.put hB hb2 (bs' := Lib.byteCells l ++ bc s) (by rw [← e2]; exact HO.out.1) (by decide)
end Go.Proofs.YtglchiomdojjoaaGreatFmt
