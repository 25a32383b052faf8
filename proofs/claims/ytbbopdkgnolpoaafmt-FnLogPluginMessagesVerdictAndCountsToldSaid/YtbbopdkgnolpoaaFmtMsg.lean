/-
  Messages as rows of eight cells; the log's comparison of two messages without a place says no (conditions: those that each lemma names).
-/
import Derived.Test.YtbbopdkgnolpoaaFmtRows
import Derived.Test.YtbbopdkgnolpoaaFmtStr
import Derived.WalkKit
import Derived.WalkSpells
import Derived.WalkLawsBesides
import Derived.Lib.Hide
import Derived.OwnWalk
namespace Go.Proofs.YtbbopdkgnolpoaaFmt
open Go.RowKit

/-- A message without notes and without a place: the plugin's name, the user's detail, the text, the kind. -/
structure Mg where
  nm : ByteArray
  ud : Option Nat
  tx : ByteArray
  kd : Int
def udV : Option Nat → Value
  | none => .nilIface
  | some b => .iface 68 (.pointer (some ⟨b, 0, none⟩))
def Mg.cells (m : Mg) : List Value := [.slice none 0 0, .string m.nm, udV m.ud, .pointer none, .string m.tx, .bool false, .int .u8 m.kd, .int .u8 0]
/-- From block g on the messages lie. -/
def MRow (w : World) (g : Nat) (ms : List Mg) : Prop := ∀ (i : Nat) (m : Mg), ms[i]? = some m → ∀ (j : Nat) (u : Value), m.cells[j]? = some u → w.cell? ⟨g, i * 8 + j, none⟩ = some u
theorem MRow.below {w w' : World} {g : Nat} {ms : List Mg} (h : MRow w g ms) {B : Nat} (hb : Below B w w') (hg : g < B) : MRow w' g ms := fun i m hi j u hu => by
  rw [hb.cell (p := ⟨g, i * 8 + j, none⟩) hg]
  exact h i m hi j u hu
theorem MRow.lt {w : World} {g : Nat} {ms : List Mg} (h : MRow w g ms) (hn : 0 < ms.length) : g < w.heap.size :=
  World.block_lt_of_cell? w _ (h 0 ms[0] (List.getElem?_eq_getElem hn) 0 _ rfl)
theorem MRow.at {w : World} {g i : Nat} {ms : List Mg} (h : MRow w g ms) {m : Mg} (hi : ms[i]? = some m) :
    w.cell? ⟨g, i * 8, none⟩ = some (.slice none 0 0) ∧ w.cell? ⟨g, i * 8 + 1, none⟩ = some (.string m.nm) ∧ w.cell? ⟨g, i * 8 + 2, none⟩ = some (udV m.ud) ∧ w.cell? ⟨g, i * 8 + 3, none⟩ = some (.pointer none) ∧
      w.cell? ⟨g, i * 8 + 4, none⟩ = some (.string m.tx) ∧ w.cell? ⟨g, i * 8 + 5, none⟩ = some (.bool false) ∧ w.cell? ⟨g, i * 8 + 6, none⟩ = some (.int .u8 m.kd) ∧ w.cell? ⟨g, i * 8 + 7, none⟩ = some (.int .u8 0) :=
  ⟨h i m hi 0 _ rfl, h i m hi 1 _ rfl, h i m hi 2 _ rfl, h i m hi 3 _ rfl, h i m hi 4 _ rfl, h i m hi 5 _ rfl, h i m hi 6 _ rfl, h i m hi 7 _ rfl⟩

set_option maxHeartbeats 1000000 in
set_option maxRecDepth 100000 in
theorem less_any (g n cap i j : Nat) (ms : List Mg) (w : World) (h : MRow w g ms) (hn : ms.length = n) (hi : i < n) (hj : j < n) (hm : n ≤ 65536) :
    Calls Tryf.prog 75 #[.slice (some ⟨g, 0, none⟩) n cap, .int .i64 i, .int .i64 j] w fun e w' => e = .returned (.bool false) ∧ Below w.heap.size w w' := by
  obtain ⟨m, hmi⟩ : ∃ m, ms[i]? = some m := ⟨_, List.getElem?_eq_getElem (show i < ms.length by omega)⟩
  obtain ⟨m', hmj⟩ : ∃ m, ms[j]? = some m := ⟨_, List.getElem?_eq_getElem (show j < ms.length by omega)⟩
  obtain ⟨a0, a1, a2, a3, a4, a5, a6, a7⟩ := h.at hmi
  obtain ⟨b0, b1, b2, b3, b4, b5, b6, b7⟩ := h.at hmj
  have hg := h.lt (by omega)
  obtain ⟨u, hu⟩ : ∃ u, m.ud = u := ⟨_, rfl⟩
  obtain ⟨u', hu'⟩ : ∃ u, m'.ud = u := ⟨_, rfl⟩
  rw [hu] at a2
  rw [hu'] at b2
  clear hmi hmj h hn hu hu'
  cases u <;> cases u'
  all_goals
    unfold udV at a2 b2
    simp only at a2 b2
    go_enter Tryf.func75, Tryf.ntmps75
    go_wp2
    go_ret
    exact ⟨rfl, ((Below.refl _ _).alloc (Nat.le_refl _) _).alloc (by simp) _⟩
theorem len_any (g n cap : Nat) (w : World) : Calls Tryf.prog 74 #[.slice (some ⟨g, 0, none⟩) n cap] w fun e w' => e = .returned (.int .i64 n) ∧ w = w' := by
  go_enter Tryf.func74, Tryf.ntmps74
  go_wp2
  go_ret
  exact ⟨rfl, rfl⟩
end Go.Proofs.YtbbopdkgnolpoaaFmt
