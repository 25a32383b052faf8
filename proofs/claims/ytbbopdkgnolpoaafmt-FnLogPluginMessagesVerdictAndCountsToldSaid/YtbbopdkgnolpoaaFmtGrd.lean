/-
  The law's guards: each answers with some truth value, and its yes bounds the lengths; conditions: those that each names.
-/
import Derived.Test.YtbbopdkgnolpoaaFmtRowIn
import Derived.Test.YtbbopdkgnolpoaaFmtStr
import Derived.Test.YtbbopdkgnolpoaaFmtRows
import Derived.WalkSpells
import Derived.WalkLawsBesides
namespace Go.Proofs.YtbbopdkgnolpoaaFmt
open Go.RowKit

theorem InRow.get {α : Type} {con : α → Value} {w : World} {a : Option Addr} {len cap : Nat} {xs : List α} (h : InRow w a len cap (xs.map con)) {i : Nat} (hi : i < len) : ∃ x u, a = some x ∧ xs[i]? = some u ∧ w.cell? (x.add i) = some (con u) := by
  obtain ⟨x, h1, h2⟩ := h.at hi
  have hl := h.len
  rw [List.length_map] at hl
  refine ⟨x, xs[i], h1, List.getElem?_eq_getElem (by omega), ?_⟩
  rw [h2, List.getElem?_map, List.getElem?_eq_getElem (by omega)]
  rfl
/-- A guard's answer. -/
def Ans (P : Prop) (w : World) (e : Ending) (w' : World) : Prop := ∃ b : Bool, e = .returned (.bool b) ∧ w = w' ∧ (b = true → P)
def SumRel (len : Nat) (s7 s8 : Value) : Prop := ∃ k m : Nat, k ≤ len ∧ s8 = .int .i64 k ∧ s7 = .int .i64 m ∧ m ≤ 1048576

set_option maxHeartbeats 2000000 in
set_option maxRecDepth 100000 in
theorem bytes_any (name : ByteArray) (a1 : Option Addr) (l1 c1 : Nat) (bs : List Bool) (a2 : Option Addr) (l2 c2 : Nat) (ss : List ByteArray) (th : Bool) (t : ByteArray) (w : World) (h0 : name.size ≤ maxLen) (h1 : InRow w a1 l1 c1 (bs.map Value.bool)) (h2 : InRow w a2 l2 c2 (ss.map Value.string)) (h3 : t.size ≤ maxLen) (hs : ∀ s ∈ ss, s.size ≤ maxLen) :
    Calls Tryf.prog 4 #[.string name, .slice a1 l1 c1, .slice a2 l2 c2, .bool th, .string t] w (Ans True w) := by
  have hcap1 := h1.cap
  have hcap2 := h2.cap
  have H2 := Lib.hid h2
  have HS := Lib.hid hs
  clear h1 h2 hs
  unfold maxLen at hcap1 hcap2 h0 h3
  obtain ⟨hc1, hc2⟩ := hcap1
  obtain ⟨hc3, hc4⟩ := hcap2
  go_enter Tryf.func4, Tryf.ntmps4
  go_wp2_with fail
  all_goals first
    | (go_ret; exact ⟨_, rfl, rfl, fun h => by cases h⟩)
    | skip
  go_loop [11, 12] (fun s7 s8 => SumRel l2 s7 s8) (fun _ s8 => l2 - (intOf s8).toNat)
  case atStart => exact ⟨0, name.size + l1 + l2, Nat.zero_le _, rfl, by go_num, by omega⟩
  case round =>
    obtain ⟨k, m, hk, rfl, rfl, hn⟩ := hrel
    by_cases hlt : k < l2
    · obtain ⟨x, s, rfl, hsk, hc⟩ := H2.out.get hlt
      have hsz := HS.out s (List.mem_of_getElem? hsk)
      unfold maxLen at hsz
      clear hsk
      go_wp2_with fail
      all_goals first
        | (go_ret; exact ⟨_, rfl, rfl, fun h => by cases h⟩)
        | skip
      go_round
      case rel => exact ⟨k + 1, m + s.size, by omega, by go_num, by go_num, by omega⟩
      case measure => simp [intOf]; omega
    · go_wp2_with fail
      all_goals
        go_ret
        exact ⟨_, rfl, rfl, fun _ => trivial⟩

set_option maxHeartbeats 2000000 in
set_option maxRecDepth 100000 in
theorem sizeOK_any (name : ByteArray) (a1 : Option Addr) (l1 c1 : Nat) (bs : List Bool) (a2 : Option Addr) (l2 c2 : Nat) (ss : List ByteArray) (t : ByteArray) (w : World) (h0 : name.size ≤ maxLen) (h1 : InRow w a1 l1 c1 (bs.map Value.bool)) (h2 : InRow w a2 l2 c2 (ss.map Value.string)) (h3 : t.size ≤ maxLen) (hs : ∀ s ∈ ss, s.size ≤ maxLen) :
    Calls Tryf.prog 5 #[.string name, .slice a1 l1 c1, .slice a2 l2 c2, .string t] w (Ans (l1 ≤ 4096) w) := by
  have hcap1 := h1.cap
  have hcap2 := h2.cap
  have H2 := Lib.hid h2
  have HS := Lib.hid hs
  clear h1 h2 hs
  unfold maxLen at hcap1 hcap2 h0 h3
  obtain ⟨hc1, hc2⟩ := hcap1
  obtain ⟨hc3, hc4⟩ := hcap2
  by_cases b0 : name.size ≤ 1048576
  rotate_left
  · go_enter Tryf.func5, Tryf.ntmps5
    go_wp2_with fail
    go_ret
    exact ⟨_, rfl, rfl, fun h => by cases h⟩
  by_cases b1 : l1 ≤ 4096
  rotate_left
  · go_enter Tryf.func5, Tryf.ntmps5
    go_wp2_with fail
    go_ret
    exact ⟨_, rfl, rfl, fun h => by cases h⟩
  by_cases b2 : l2 ≤ 4096
  rotate_left
  · go_enter Tryf.func5, Tryf.ntmps5
    go_wp2_with fail
    go_ret
    exact ⟨_, rfl, rfl, fun h => by cases h⟩
  by_cases b3 : t.size ≤ 1048576
  rotate_left
  · go_enter Tryf.func5, Tryf.ntmps5
    go_wp2_with fail
    go_ret
    exact ⟨_, rfl, rfl, fun h => by cases h⟩
  by_cases b4 : name.size + l1 + 8 * l2 + t.size ≤ 1048576
  rotate_left
  · go_enter Tryf.func5, Tryf.ntmps5
    go_wp2_with fail
    go_ret
    exact ⟨_, rfl, rfl, fun h => by cases h⟩
  go_enter Tryf.func5, Tryf.ntmps5
  go_wp2_with fail
  go_loop [9, 10] (fun s7 s8 => SumRel l2 s7 s8) (fun _ s8 => l2 - (intOf s8).toNat)
  case atStart => exact ⟨0, name.size + l1 + 8 * l2 + t.size, Nat.zero_le _, rfl, by go_num, by omega⟩
  case round =>
    obtain ⟨k, m, hk, rfl, rfl, hn⟩ := hrel
    by_cases hlt : k < l2
    · obtain ⟨x, s, rfl, hsk, hc⟩ := H2.out.get hlt
      have hsz := HS.out s (List.mem_of_getElem? hsk)
      unfold maxLen at hsz
      clear hsk
      go_wp2_with fail
      all_goals first
        | (go_ret; exact ⟨_, rfl, rfl, fun h => by cases h⟩)
        | skip
      go_round
      case rel => exact ⟨k + 1, m + s.size, by omega, by go_num, by go_num, by omega⟩
      case measure => simp [intOf]; omega
    · go_wp2_with fail
      go_ret
      exact ⟨_, rfl, rfl, fun _ => by first | trivial | exact b1⟩
end Go.Proofs.YtbbopdkgnolpoaaFmt
