/-
  The contracts of the checks over the arguments: separated by commas, trimmed at the ends, read back; conditions: those that each names.
-/
import Derived.Test.YtjanppdeddfehaaFmtTkn
import Derived.OwnWalk
import Derived.Laws.AppendOwn
namespace Go.Proofs.YtjanppdeddfehaaFmt
open Go.RowKit

theorem TkAt.up {w w' : World} {g o : Nat} {x : Tk} (h : TkAt w g o x) (hb : Below w.heap.size w w') : TkAt w' g o x := by
  have hg : g < w.heap.size := World.block_lt_of_cell? w _ h.c0
  exact ⟨(hb.cell (p := ⟨g, o, none⟩) hg).trans h.c0, (hb.cell (p := ⟨g, o + 1, none⟩) hg).trans h.c1, (hb.cell (p := ⟨g, o + 2, none⟩) hg).trans h.c2, (hb.cell (p := ⟨g, o + 3, none⟩) hg).trans h.c3, (hb.cell (p := ⟨g, o + 4, none⟩) hg).trans h.c4, (hb.cell (p := ⟨g, o + 5, none⟩) hg).trans h.c5, (hb.cell (p := ⟨g, o + 6, none⟩) hg).trans h.c6⟩
/-- The k-th argument of a row that begins at (g, o). -/
def Arg (w : World) (g o : Nat) (K : Nat → Tk) (n : Nat) : Prop := ∀ j, j < n → TkAt w g (o + j * 7) (K j)

/-- Arguments that alternate with commas. -/
def Alt (K : Nat → Tk) (n : Nat) : Prop := ∀ j, j < n → (K j).k = if j % 2 = 0 then 30 else 10
theorem TkAt.cell {w : World} {g o : Nat} {x : Tk} (h : TkAt w g o x) : w.cell? ⟨g, o + 5, none⟩ = some (.int .u8 x.k) ∧ w.cell? ⟨g, o + 1, none⟩ = some (.string x.t) ∧ w.cell? ⟨g, o + 6, none⟩ = some (.int .u8 x.ws) := ⟨h.c5, h.c1, h.c6⟩

set_option maxHeartbeats 2000000 in
set_option maxRecDepth 100000 in
theorem comma_any (g o cap : Nat) (K : Nat → Tk) (w : World) (h : Arg w g o K 11) (ha : Alt K 11) : Calls Tryf.prog 11 #[.slice (some ⟨g, o, none⟩) 11 cap] w fun e w' => e = .returned (.bool true) ∧ w = w' := by
  have hk := fun j (hj : j < 11) => (h j hj).c5
  have H := Lib.hid (And.intro hk ha)
  clear h ha hk
  go_enter Tryf.func11, Tryf.ntmps11
  go_wp2_with fail
  go_loop [4] (fun s4 => ∃ j : Nat, j ≤ 5 ∧ s4 = .int .i64 ((2 * j + 1 : Nat) : Int)) (fun s4 => 11 - (intOf s4).toNat)
  case atStart => exact ⟨0, by omega, rfl⟩
  case round =>
    obtain ⟨j, hj, rfl⟩ := hrel
    rcases (show j = 0 ∨ j = 1 ∨ j = 2 ∨ j = 3 ∨ j = 4 ∨ j = 5 by omega) with rfl | rfl | rfl | rfl | rfl | rfl
    · have q : w.cell? ⟨g, o + 7 + 5, none⟩ = some (.int .u8 10) := (H.out.1 1 (by omega)).trans (by rw [H.out.2 1 (by omega)]; rfl)
      go_wp2_with fail
      go_round
      case rel => exact ⟨1, by omega, rfl⟩
      case measure => simp [intOf]
    · have q : w.cell? ⟨g, o + 21 + 5, none⟩ = some (.int .u8 10) := (H.out.1 3 (by omega)).trans (by rw [H.out.2 3 (by omega)]; rfl)
      go_wp2_with fail
      go_round
      case rel => exact ⟨2, by omega, rfl⟩
      case measure => simp [intOf]
    · have q : w.cell? ⟨g, o + 35 + 5, none⟩ = some (.int .u8 10) := (H.out.1 5 (by omega)).trans (by rw [H.out.2 5 (by omega)]; rfl)
      go_wp2_with fail
      go_round
      case rel => exact ⟨3, by omega, rfl⟩
      case measure => simp [intOf]
    · have q : w.cell? ⟨g, o + 49 + 5, none⟩ = some (.int .u8 10) := (H.out.1 7 (by omega)).trans (by rw [H.out.2 7 (by omega)]; rfl)
      go_wp2_with fail
      go_round
      case rel => exact ⟨4, by omega, rfl⟩
      case measure => simp [intOf]
    · have q : w.cell? ⟨g, o + 63 + 5, none⟩ = some (.int .u8 10) := (H.out.1 9 (by omega)).trans (by rw [H.out.2 9 (by omega)]; rfl)
      go_wp2_with fail
      go_round
      case rel => exact ⟨5, by omega, rfl⟩
      case measure => simp [intOf]
    · go_wp2_with fail
      go_ret
      exact ⟨rfl, rfl⟩
/-- Whether a row's white space is trimmed at both ends. -/
def want (n : Nat) (ws : Int) (j : Nat) : Int :=
  let a := if j = 0 then bits .andNot .u8 ws 1 else ws
  if j + 1 = n then bits .andNot .u8 a 2 else a

set_option maxHeartbeats 2000000 in
set_option maxRecDepth 100000 in
theorem ends_any (g o n cap : Nat) (K : Nat → Tk) (ws : Int) (w : World) (h : Arg w g o K n) (h1 : 1 ≤ n) (hn : n ≤ 11) (hcap : n ≤ cap) (hw : ∀ j, j < n → (K j).ws = want n ws j) :
    Calls Tryf.prog 8 #[.slice (some ⟨g, o, none⟩) n cap, .int .u8 ws] w fun e w' => e = .returned (.bool true) ∧ w = w' := by
  have H := Lib.hid (And.intro h hw)
  clear h hw
  go_enter Tryf.func8, Tryf.ntmps8
  go_wp2_with fail
  go_loop [6] (fun s6 => ∃ j : Nat, j ≤ n ∧ s6 = .int .i64 (j : Int)) (fun s6 => n - (intOf s6).toNat)
  case atStart => exact ⟨0, Nat.zero_le _, rfl⟩
  case round =>
    obtain ⟨j, hj, rfl⟩ := hrel
    by_cases hlt : j < n
    · have c6 := (H.out.1 j hlt).c6
      have hv := H.out.2 j hlt
      unfold want at hv
      by_cases e0 : j = 0
      · subst e0
        rw [Nat.zero_mul, Nat.add_zero] at c6
        by_cases e1 : 0 + 1 = n
        · rw [if_pos rfl, if_pos e1] at hv
          rw [hv] at c6
          obtain rfl : n = 1 := by omega
          clear hv e1
          go_wp2_with fail
          go_round
          case rel => exact ⟨1, by omega, rfl⟩
          case measure => simp [intOf]
        · rw [if_pos rfl, if_neg e1] at hv
          rw [hv] at c6
          have d1 : ((0 : Int) == (n : Int) - 1) = false := by rw [beq_eq_false_iff_ne]; omega
          clear hv e1
          go_wp2_with fail
          go_round
          case rel => exact ⟨1, by omega, rfl⟩
          case measure => simp [intOf]; omega
      · by_cases e1 : j + 1 = n
        · rw [if_neg e0, if_pos e1] at hv
          rw [hv] at c6
          have d0 : ((j : Int) == 0) = false := by rw [beq_eq_false_iff_ne]; omega
          have d1 : ((j : Int) == (n : Int) - 1) = true := by rw [beq_iff_eq]; omega
          have HE := Lib.hid (And.intro e0 e1)
          clear hv e1 e0
          go_wp2_with fail
          go_round
          case rel => exact ⟨j + 1, by omega, by go_num⟩
          case measure => simp [intOf]; omega
        · rw [if_neg e0, if_neg e1] at hv
          rw [hv] at c6
          have d0 : ((j : Int) == 0) = false := by rw [beq_eq_false_iff_ne]; omega
          have d1 : ((j : Int) == (n : Int) - 1) = false := by rw [beq_eq_false_iff_ne]; omega
          have HE := Lib.hid (And.intro e0 e1)
          clear hv e1 e0
          go_wp2_with fail
          go_round
          case rel => exact ⟨j + 1, by omega, by go_num⟩
          case measure => simp [intOf]; omega
    · go_wp2_with fail
      go_ret
      exact ⟨rfl, rfl⟩
end Go.Proofs.YtjanppdeddfehaaFmt
