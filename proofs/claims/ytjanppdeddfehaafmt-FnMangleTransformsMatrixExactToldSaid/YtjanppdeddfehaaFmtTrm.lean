/-
  What trimming the ends leaves; conditions: those that each names.
-/
import Derived.Test.YtjanppdeddfehaaFmtSix
namespace Go.Proofs.YtjanppdeddfehaaFmt
open Go.RowKit

theorem bits254 : ∀ n : Fin 256, bits .and .u8 (n.val : Int) 254 = bits .andNot .u8 (n.val : Int) 1 := by decide +kernel
theorem bits253 : ∀ n : Fin 256, bits .and .u8 (n.val : Int) 253 = bits .andNot .u8 (n.val : Int) 2 := by decide +kernel
theorem bits2 : ∀ n : Fin 256, bits .and .u8 (bits .and .u8 (n.val : Int) 254) 253 = bits .andNot .u8 (bits .andNot .u8 (n.val : Int) 1) 2 := by decide +kernel
theorem fin_of {ws : Int} (h0 : 0 ≤ ws) (h1 : ws ≤ 255) : ∃ n : Fin 256, ws = (n.val : Int) := ⟨⟨ws.toNat, by omega⟩, by simp; omega⟩
def wsT (n : Nat) (ws : Int) (K : Nat → Tk) (j : Nat) : Tk := ⟨(K j).t, (K j).k, want n ws j⟩
/-- A token but for its white space. -/
theorem TkAt.ws {w w' : World} {g o : Nat} {x : Tk} {v : Int} (h : TkAt w g o x) (h6 : w'.cell? ⟨g, o + 6, none⟩ = some (.int .u8 v)) (ho : ∀ p, o ≤ p → p < o + 6 → w'.cell? ⟨g, p, none⟩ = w.cell? ⟨g, p, none⟩) : TkAt w' g o ⟨x.t, x.k, v⟩ :=
  ⟨(ho _ (by omega) (by omega)).trans h.c0, (ho _ (by omega) (by omega)).trans h.c1, (ho _ (by omega) (by omega)).trans h.c2, (ho _ (by omega) (by omega)).trans h.c3, (ho _ (by omega) (by omega)).trans h.c4, (ho _ (by omega) (by omega)).trans h.c5, h6⟩
theorem trim_many {w : World} {g o n l : Nat} {K : Nat → Tk} {ws : Int} (hB : Blk w g 77) (h : Arg w g o K n) (hw : ∀ j, j < n → (K j).ws = ws) (h0 : 0 ≤ ws) (h1 : ws ≤ 255) (hn : 2 ≤ n) (hl : l = o + (n - 1) * 7 + 6) (ho : o + n * 7 ≤ 77) :
    Arg ((w.setCell ⟨g, o + 6, none⟩ (.int .u8 (bits .and .u8 ws 254))).setCell ⟨g, l, none⟩ (.int .u8 (bits .and .u8 ws 253))) g o (wsT n ws K) n := by
  obtain ⟨q, hq⟩ := fin_of h0 h1
  have e1 : bits .and .u8 ws 254 = bits .andNot .u8 ws 1 := by rw [hq]; exact bits254 q
  have e2 : bits .and .u8 ws 253 = bits .andNot .u8 ws 2 := by rw [hq]; exact bits253 q
  subst hl
  have hB1 := hB.set (o + 6) (.int .u8 (bits .and .u8 ws 254))
  intro j hj
  refine (h j hj).ws ?_ (fun p p1 p2 => ?_)
  · unfold want
    by_cases c1 : j = 0
    · subst c1
      rw [if_pos rfl, if_neg (by omega), Nat.zero_mul, Nat.add_zero, hB1.other _ (by omega), hB.same _ (by omega), e1]
    · by_cases c2 : j + 1 = n
      · rw [if_neg c1, if_pos c2, show n - 1 = j by omega, hB1.same _ (by omega), e2]
      · rw [if_neg c1, if_neg c2, hB1.other _ (by omega), hB.other _ (by omega), (h j hj).c6, hw j hj]
  · rw [hB1.other _ (by omega), hB.other _ (by omega)]
theorem trim_one {w : World} {g o : Nat} {K : Nat → Tk} {ws : Int} (hB : Blk w g 77) (h : TkAt w g o (K 0)) (h0 : 0 ≤ ws) (h1 : ws ≤ 255) (ho : o + 7 ≤ 77) :
    Arg ((w.setCell ⟨g, o + 6, none⟩ (.int .u8 (bits .and .u8 ws 254))).setCell ⟨g, o + 6, none⟩ (.int .u8 (bits .and .u8 (bits .and .u8 ws 254) 253))) g o (wsT 1 ws K) 1 := by
  obtain ⟨q, hq⟩ := fin_of h0 h1
  have e1 : bits .and .u8 (bits .and .u8 ws 254) 253 = bits .andNot .u8 (bits .andNot .u8 ws 1) 2 := by rw [hq]; exact bits2 q
  have hB1 := hB.set (o + 6) (.int .u8 (bits .and .u8 ws 254))
  intro j hj
  obtain rfl : j = 0 := by omega
  rw [Nat.zero_mul, Nat.add_zero]
  refine h.ws ?_ (fun p p1 p2 => ?_)
  · unfold want
    rw [if_pos rfl, if_pos rfl, hB1.same _ (by omega), e1]
  · rw [hB1.other _ (by omega), hB.other _ (by omega)]
/-- What mangling leaves. -/
def MEnd (w : World) (B tb : Nat) (text : ByteArray) (n : Nat) (ws : Int) (K : Nat → Tk) (e : Ending) (w' : World) : Prop :=
  e = .returned (.slice (some ⟨tb, 0, none⟩) 1 1) ∧ (∃ bx cb o cap, w'.cell? ⟨tb, 0, none⟩ = some (.pointer (some ⟨bx, 0, none⟩)) ∧ w'.cell? ⟨tb, 1, none⟩ = some (.string text) ∧ w'.cell? ⟨tb, 5, none⟩ = some (.int .u8 27) ∧ w'.cell? ⟨bx, 0, none⟩ = some (.slice (some ⟨cb, o, none⟩) n cap) ∧ n ≤ cap ∧ Arg w' cb o (wsT n ws K) n) ∧ Below B w w'
end Go.Proofs.YtjanppdeddfehaaFmt
