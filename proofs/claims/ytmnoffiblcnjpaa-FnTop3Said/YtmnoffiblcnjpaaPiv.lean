/-
  sort.choosePivot over the elements: a place of the range and a hint; conditions: those that each lemma names.
-/
import Derived.Test.YtmnoffiblcnjpaaMed
namespace Go.Proofs.Ytmnoffiblcnjpaa
open Go.RowKit Go.Sort

def PivPost (w0 : World) (g N a b : Nat) (d : Array El) (w : World) (e : Ending) (w' : World) : Prop :=
  ∃ p hint : Nat, e = .returned (.tuple #[.int .i64 p, .int .i64 hint]) ∧ a ≤ p ∧ p < b ∧ hint ≤ 2 ∧ R w0 g N d w' ∧ Up w0 w w'
theorem adj_at {w0 w : World} {g N q K : Nat} {d : Array El} (h : Ms w0 g N d q K w) (hK : K ≤ 900) (hN : N ≤ 65536) {a : Int} (x : Nat) (hx : x + 1 < N) (h0 : 0 < x) (ha : a = x) :
    Calls Try.prog 37 #[dv g N, .int .i64 a, .pointer (some ⟨q, 0, none⟩)] w (MedPost w0 g N d q K (x - 1) x (x + 1) w) := by
  subst ha
  exact adj_any h hK hN x hx h0
/-- The counter, new: it holds 0. -/
theorem ms_new {w0 w : World} {g N : Nat} {d : Array El} (h : R w0 g N d w) {W : World} (hW : W = w.alloc (.cells #[.int .i64 0] 3)) : Ms w0 g N d w.heap.size 0 W ∧ w.heap.size < W.heap.size ∧ ∀ k, k < w.heap.size → W.heap[k]? = w.heap[k]? := by
  subst hW
  have hb : Below w.heap.size w (w.alloc (.cells #[.int .i64 0] 3)) := (Below.refl _ _).alloc (Nat.le_refl _) _
  refine ⟨⟨h.up hb, h.big, 0, Nat.le_refl _, Row.new w 3 #[.int .i64 0] 1 _ rfl ?_⟩, by simp, fun k hk => hb.block k hk⟩
  intro i hi
  obtain rfl : i = 0 := by omega
  rfl
/-- What was made and changed in the search lies above the world it began in. -/
theorem ms_up {w0 w W w' : World} (hs : w.heap.size < W.heap.size) (hb : ∀ k, k < w.heap.size → W.heap[k]? = w.heap[k]?) (hU : Upx w0 w.heap.size W w') : Up w0 w w' :=
  ⟨by have := hU.1; omega, fun k h1 h2 => by rw [hU.2 k h1 (by omega) (by omega), hb k h2]⟩

set_option maxHeartbeats 8000000 in
set_option maxRecDepth 100000 in
theorem piv_any {w0 w : World} {g N : Nat} {d : Array El} (h : R w0 g N d w) (hN : N ≤ 65536) (a b : Nat) (hab : a + 12 < b) (hb : b ≤ N) :
    Calls Try.prog 27 #[dv g N, .int .i64 a, .int .i64 b] w (PivPost w0 g N a b d w) := by
  have hnew := ms_new h rfl
  have HN := Lib.hid hnew
  obtain ⟨c, hc⟩ : ∃ c : Nat, (b - a) / 4 = c := ⟨_, rfl⟩
  have hquo : Int.tdiv ((b : Int) - (a : Int)) 4 = (c : Int) := by
    rw [show (b : Int) - (a : Int) = ((b - a : Nat) : Int) by omega, ← hc]
    exact (Int.natCast_ediv _ _).symm ▸ (Int.tdiv_eq_ediv_of_nonneg (by omega))
  have hc3 : 3 ≤ c := by omega
  have hc4 : a + c * 4 ≤ b := by omega
  clear h hnew hc
  by_cases h50 : b - a < 50
  · have h50' : (b : Int) - (a : Int) < 50 := by omega
    go_enter Try.func27, Try.ntmps27
    go_wp2_with fail
    refine (median_at HN.out.1 (by omega) (a + c * 1) (a + c * 2) (a + c * 3) (by omega) (by omega) (by omega) (by omega) (by omega) (by omega)).mono ?_
    rintro e wm ⟨m, rfl, hm, hM, hU⟩
    have HF := Lib.hid (And.intro hM (ms_up HN.out.2.1 HN.out.2.2 (hU)))
    clear hM hU
    obtain ⟨k, hk, hr⟩ := HF.out.1.s.row
    have hcc := hr.cell (i := 0) (by omega)
    have hff := hr.frozen 0
    clear hr
    by_cases k0 : k = 0
    · subst k0
      go_wp2_with fail
      go_ret2
      exact ⟨m, 1, rfl, by omega, by omega, by omega, HF.out.1.r, HF.out.2⟩
    · by_cases k12 : k = 12
      · subst k12
        go_wp2_with fail
        go_ret2
        exact ⟨m, 2, rfl, by omega, by omega, by omega, HF.out.1.r, HF.out.2⟩
      · have n0 : ¬ (k : Int) = 0 := by omega
        have n12 : ¬ (k : Int) = 12 := by omega
        go_wp2_with fail
        go_ret2
        exact ⟨m, 0, rfl, by omega, by omega, by omega, HF.out.1.r, HF.out.2⟩
  · have h50' : ¬ (b : Int) - (a : Int) < 50 := by omega
    go_enter Try.func27, Try.ntmps27
    go_wp2_with fail
    refine (adj_at HN.out.1 (by omega) hN (a + c * 1) (by omega) (by omega) (by omega)).mono ?_
    rintro e w1 ⟨i1, rfl, hi1, hM1, hU1⟩
    have H1 := Lib.hid (And.intro hM1 hU1)
    clear hM1 hU1
    go_wp2_with fail
    refine (adj_at H1.out.1 (by omega) hN (a + c * 2) (by omega) (by omega) (by omega)).mono ?_
    rintro e w2 ⟨i2, rfl, hi2, hM2, hU2⟩
    have H2 := Lib.hid (And.intro hM2 (H1.out.2.trans hU2))
    clear hM2 hU2
    go_wp2_with fail
    refine (adj_at H2.out.1 (by omega) hN (a + c * 3) (by omega) (by omega) (by omega)).mono ?_
    rintro e w3 ⟨i3, rfl, hi3, hM3, hU3⟩
    have H3 := Lib.hid (And.intro hM3 (H2.out.2.trans hU3))
    clear hM3 hU3
    go_wp2_with fail
    refine (median_at H3.out.1 (by omega) i1 i2 i3 (by omega) (by omega) (by omega) (by omega) (by omega) (by omega)).mono ?_
    rintro e wm ⟨m, rfl, hm, hM, hU⟩
    have HF := Lib.hid (And.intro hM (ms_up HN.out.2.1 HN.out.2.2 (H3.out.2.trans hU)))
    clear hM hU
    obtain ⟨k, hk, hr⟩ := HF.out.1.s.row
    have hcc := hr.cell (i := 0) (by omega)
    have hff := hr.frozen 0
    clear hr
    by_cases k0 : k = 0
    · subst k0
      go_wp2_with fail
      go_ret2
      exact ⟨m, 1, rfl, by omega, by omega, by omega, HF.out.1.r, HF.out.2⟩
    · by_cases k12 : k = 12
      · subst k12
        go_wp2_with fail
        go_ret2
        exact ⟨m, 2, rfl, by omega, by omega, by omega, HF.out.1.r, HF.out.2⟩
      · have n0 : ¬ (k : Int) = 0 := by omega
        have n12 : ¬ (k : Int) = 12 := by omega
        go_wp2_with fail
        go_ret2
        exact ⟨m, 0, rfl, by omega, by omega, by omega, HF.out.1.r, HF.out.2⟩
end Go.Proofs.Ytmnoffiblcnjpaa
