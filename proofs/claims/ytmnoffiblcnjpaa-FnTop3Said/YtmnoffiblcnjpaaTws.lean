/-
  The string of one of two builders, the other kept; conditions: those that each lemma names.
-/
import Derived.Test.YtmnoffiblcnjpaaTwo
import Derived.RegionTactic
namespace Go.Proofs.Ytmnoffiblcnjpaa
open Go.RowKit

theorem freeze_mv {w : World} {b g n cap : Nat} (k : Nat) : Mv b (.slice (some ⟨g, 0, none⟩) n cap) w ((w.drew).freeze ⟨g, 0, none⟩ k) := by
  unfold World.freeze
  split
  · exact ⟨rfl, rfl, rfl, Nat.le_refl _, fun _ _ _ _ => rfl⟩
  · refine ⟨rfl, rfl, rfl, by simp, fun j _ _ hj => ?_⟩
    simp only [Array.getElem?_modify]
    rw [if_neg (fun e => hj (by show some g = some j; rw [e]))]
    rfl
theorem cells5 : Try.prog.cellsOf 5 = 1 := by kernel_rfl
set_option maxHeartbeats 1000000 in
set_option maxRecDepth 100000 in
theorem string_v (B b : Nat) (v : Value) (l : List UInt8) (w : World) (h : BV B b v l w) (h0 : l ≠ []) :
    Calls Try.prog 14 #[.pointer (some ⟨b, 0, none⟩)] w fun e w' => e = .returned (.string ⟨l.toArray⟩) ∧ Mv b v w w' := by
  obtain ⟨hB, ⟨p, _, hbk⟩, hown, hne⟩ := h
  have hl0 : l.length ≠ 0 := by simpa using h0
  rw [Lib.byteCells_length] at hown
  obtain ⟨g, cap, cur, rfl, hbg, hg, hnc, hcm, hcs, htake⟩ : ∃ g cap cur, v = .slice (some ⟨g, 0, none⟩) l.length cap ∧ B ≤ g ∧ w.heap[g]? = some (.cells cur 5 (0, 0)) ∧ l.length ≤ cap ∧ cap ≤ maxLen ∧ cur.size = cap * 1 ∧ cur.toList.take (l.length * 1) = Lib.byteCells l := by
    rcases hown.2 with ⟨_, hz⟩ | ⟨g, cap, cur, hv, r⟩
    · exact absurd hz hl0
    · exact ⟨g, cap, cur, hv, r⟩
  have c1 : w.drew.cell? ⟨b, 1, none⟩ = some (.slice (some ⟨g, 0, none⟩) l.length cap) := by
    have : w.drew.heap[b]? = some (.cells #[p, .slice (some ⟨g, 0, none⟩) l.length cap] 45 (0, 0)) := hbk
    rw [Lib.cell_of_heap this]; rfl
  have hSD : (Builtin.unsafeSliceData_ #[43] 61 #[.slice (some ⟨g, 0, none⟩) l.length cap]).run Try.prog w.drew = .ok (.pointer (some ⟨g, 0, none⟩)) w.drew :=
    Lib.run_unsafeSliceData_row _ _ _ _ _ _ (by omega)
  have hUS : (Builtin.unsafeString_ #[61, 3] 9 #[.pointer (some ⟨g, 0, none⟩), .int .i64 l.length]).run Try.prog w.drew = .ok (.string ⟨l.toArray⟩) (w.drew.freeze ⟨g, 0, none⟩ l.length) := by
    refine Lib.run_unsafeString_row w.drew 61 3 9 5 Try.underlying61 cells5 g cur.size (by have hg' : w.drew.heap[g]? = some (.cells cur 5 (0, 0)) := hg; simp [World.shape?, hg']) l h0 (by omega) (by unfold maxLen at hcm; omega) ?_
    intro j x hx
    have := hown.cells (g := g) rfl j (.int .u8 x.toNat) (by simp [Lib.byteCells, hx])
    exact this
  have HM := Lib.hid (freeze_mv (w := w) (b := b) (g := g) (n := l.length) (cap := cap) l.length)
  clear hown hg hcs htake hnc hcm hbk hbg hB hne hl0
  go_enter Try.func14, Try.ntmps14
  go_wp2
  go_region
  all_goals (go_wp2; go_ret; exact ⟨rfl, HM.out⟩)
theorem tw_str {B b1 b2 : Nat} {l1 l2 : List UInt8} (w : World) (h : Tw B b1 b2 l1 l2 w) (h0 : l1 ≠ []) :
    Calls Try.prog 14 #[.pointer (some ⟨b1, 0, none⟩)] w fun e w' => e = .returned (.string (S l1)) ∧ Bld B b2 l2 w' ∧ Below B w w' := by
  obtain ⟨v1, v2, h1, h2, h3, h4, h5, h6⟩ := h
  refine (string_v B b1 v1 l1 w h1 h0).mono ?_
  rintro e w' ⟨rfl, hm⟩
  have hl2 := h2.own.lt
  refine ⟨rfl, BV.bld (v := v2) ⟨h2.le, ?_, ?_, h2.ne⟩, ⟨hm.os, hm.tape, hm.output, hm.size, fun k hk => ?_⟩⟩
  · obtain ⟨p, hp, hq⟩ := h2.at_
    exact ⟨p, hp, by rw [hm.block b2 h2.lt h3.symm h4]; exact hq⟩
  · refine ⟨h2.own.1, ?_⟩
    rcases h2.own.2 with hn | ⟨g, cap, cur, hv, hbg, hg, rest⟩
    · exact .inl hn
    · have ho : v2.ownBlock = some g := by rw [hv]; rfl
      exact .inr ⟨g, cap, cur, hv, hbg, by rw [hm.block g (hl2 g ho).2 (fun e => h5 (by rw [ho, e])) (fun e => h6 g e ho)]; exact hg, rest⟩
  · exact hm.block k (by have := h1.le; have := h1.lt; omega) (by have := h1.le; omega) (fun e => by have := (h1.own.lt k e).1; omega)
end Go.Proofs.Ytmnoffiblcnjpaa
