/-
  The contracts of unicode.SimpleFold at the few runes that an ASCII tag leads to, and of strings.EqualFold at a text that holds a byte beyond ASCII against an ASCII tag of the same length; conditions: what the listed tables hold, the sizes that each names.
-/
import Derived.Test.YtalnapcphdmjaaaDoorEsc
import Derived.Test.YtalnapcphdmjaaaDoorRows
import Derived.WalkKit
import Derived.WalkSpells
import Derived.WalkLawsBesides
import Derived.Deep.LoopGhost
import Derived.Lib.Hide
namespace Go.Proofs.YtalnapcphdmjaaaDoor
open Go.RowKit

/-- unicode.asciiFold; the next rune of an orbit. -/
def af (c : Nat) : Nat := if c = 107 then 8490 else if c = 115 then 383 else if 65 ≤ c ∧ c ≤ 90 then c + 32 else if 97 ≤ c ∧ c ≤ 122 then c - 32 else c
def nx (r : Nat) : Nat := if r < 128 then af r else if r = 8490 then 75 else if r = 383 then 83 else r
def Orbit (r : Nat) : Prop := r < 128 ∨ r = 8490 ∨ r = 383

/-- unicode.caseOrbit's length, and the entries that the two searches meet. -/
def orbAt : List (Nat × Int) := [(47, 966), (71, 7296), (83, 7838), (89, 8491), (86, 8163), (88, 8490), (87, 8486), (23, 837), (11, 452), (5, 197), (8, 304), (10, 383), (9, 305)]
structure Tabs (w : World) : Prop where
  fold : ∀ c, c < 128 → w.cell? ⟨0, c, none⟩ = some (.int .u16 (af c))
  orb : ∃ q o sp cap, w.cell? ⟨1, 0, none⟩ = some (.slice (some ⟨q, o, sp⟩) 94 cap) ∧ (∀ x ∈ orbAt, w.cell? ⟨q, o + x.1 * 2, none⟩ = some (.int .u16 x.2)) ∧ w.cell? ⟨q, o + 88 * 2 + 1, none⟩ = some (.int .u16 75) ∧ w.cell? ⟨q, o + 10 * 2 + 1, none⟩ = some (.int .u16 83)
theorem Tabs.up {w w' : World} (h : Tabs w) (hb : Below w.heap.size w w') : Tabs w' := by
  have up : ∀ {p : Addr} {v : Value}, w.cell? p = some v → w'.cell? p = some v := fun {p v} hc => (hb.cell (World.block_lt_of_cell? w p hc)).trans hc
  obtain ⟨q, o, sp, cap, h1, h2, h3, h4⟩ := h.orb
  exact ⟨fun c hc => up (h.fold c hc), q, o, sp, cap, up h1, fun x hx => up (h2 x hx), up h3, up h4⟩

theorem af_le : ∀ c : Fin 128, af c.val ≤ 8490 := by decide
set_option maxHeartbeats 400000 in
set_option maxRecDepth 100000 in
theorem sf_ascii (c : Nat) (w : World) (hT : Tabs w) (h : c < 128) : Calls Tryd.prog 32 #[.int .i32 c] w fun e w' => e = .returned (.int .i32 (af c)) ∧ w = w' := by
  have hc := hT.fold c h
  have hle : af c ≤ 8490 := af_le ⟨c, h⟩
  obtain ⟨v, hv⟩ : ∃ v, af c = v := ⟨_, rfl⟩
  rw [hv] at hc hle ⊢
  clear hv hT
  go_enter Tryd.func32, Tryd.ntmps32
  go_wp2
  go_ret
  exact ⟨rfl, rfl⟩

def S8490 (a b : Value) : Prop := (a, b) ∈ [(Value.int .i64 0, Value.int .i64 94), (.int .i64 48, .int .i64 94), (.int .i64 72, .int .i64 94), (.int .i64 84, .int .i64 94), (.int .i64 84, .int .i64 89), (.int .i64 87, .int .i64 89), (.int .i64 87, .int .i64 88), (.int .i64 88, .int .i64 88)]
def S383 (a b : Value) : Prop := (a, b) ∈ [(Value.int .i64 0, Value.int .i64 94), (.int .i64 0, .int .i64 47), (.int .i64 0, .int .i64 23), (.int .i64 0, .int .i64 11), (.int .i64 6, .int .i64 11), (.int .i64 9, .int .i64 11), (.int .i64 9, .int .i64 10), (.int .i64 10, .int .i64 10)]

set_option maxHeartbeats 4000000 in
set_option maxRecDepth 100000 in
theorem sf_8490 (w : World) (hT : Tabs w) : Calls Tryd.prog 32 #[.int .i32 8490] w fun e w' => e = .returned (.int .i32 75) ∧ w = w' := by
  obtain ⟨q, o, sp, cap, h1, h2, h3, h4⟩ := hT.orb
  have c47 := h2 (47, 966) (by decide)
  have c71 := h2 (71, 7296) (by decide)
  have c83 := h2 (83, 7838) (by decide)
  have c89 := h2 (89, 8491) (by decide)
  have c86 := h2 (86, 8163) (by decide)
  have c88 := h2 (88, 8490) (by decide)
  have c87 := h2 (87, 8486) (by decide)
  clear h2 h4 hT
  simp only [Nat.reduceMul, Nat.add_assoc, Nat.reduceAdd] at c47 c71 c83 c89 c86 c88 c87 h3
  go_enter Tryd.func32, Tryd.ntmps32
  go_wp2
  go_loop [3, 4] (fun a b => S8490 a b) (fun a b => (intOf b - intOf a).toNat)
  case atStart => exact by unfold S8490; simp
  case round =>
    unfold S8490 at hrel
    simp only [List.mem_cons, Prod.mk.injEq, List.mem_nil_iff, or_false] at hrel
    rcases hrel with ⟨rfl, rfl⟩ | ⟨rfl, rfl⟩ | ⟨rfl, rfl⟩ | ⟨rfl, rfl⟩ | ⟨rfl, rfl⟩ | ⟨rfl, rfl⟩ | ⟨rfl, rfl⟩ | ⟨rfl, rfl⟩
    all_goals go_wp2
    all_goals first
      | (go_ret; exact ⟨rfl, rfl⟩)
      | (refine ⟨by unfold S8490; simp, by simp [intOf]⟩)

set_option maxHeartbeats 4000000 in
set_option maxRecDepth 100000 in
theorem sf_383 (w : World) (hT : Tabs w) : Calls Tryd.prog 32 #[.int .i32 383] w fun e w' => e = .returned (.int .i32 83) ∧ w = w' := by
  obtain ⟨q, o, sp, cap, h1, h2, h3, h4⟩ := hT.orb
  have c47 := h2 (47, 966) (by decide)
  have c23 := h2 (23, 837) (by decide)
  have c11 := h2 (11, 452) (by decide)
  have c5 := h2 (5, 197) (by decide)
  have c8 := h2 (8, 304) (by decide)
  have c10 := h2 (10, 383) (by decide)
  have c9 := h2 (9, 305) (by decide)
  clear h2 h3 hT
  simp only [Nat.reduceMul, Nat.add_assoc, Nat.reduceAdd] at c47 c23 c11 c5 c8 c10 c9 h4
  go_enter Tryd.func32, Tryd.ntmps32
  go_wp2
  go_loop [3, 4] (fun a b => S383 a b) (fun a b => (intOf b - intOf a).toNat)
  case atStart => exact by unfold S383; simp
  case round =>
    unfold S383 at hrel
    simp only [List.mem_cons, Prod.mk.injEq, List.mem_nil_iff, or_false] at hrel
    rcases hrel with ⟨rfl, rfl⟩ | ⟨rfl, rfl⟩ | ⟨rfl, rfl⟩ | ⟨rfl, rfl⟩ | ⟨rfl, rfl⟩ | ⟨rfl, rfl⟩ | ⟨rfl, rfl⟩ | ⟨rfl, rfl⟩
    all_goals go_wp2
    all_goals first
      | (go_ret; exact ⟨rfl, rfl⟩)
      | (refine ⟨by unfold S383; simp, by simp [intOf]⟩)

theorem sf_any (r : Nat) (w : World) (hT : Tabs w) (h : Orbit r) : Calls Tryd.prog 32 #[.int .i32 r] w fun e w' => e = .returned (.int .i32 (nx r)) ∧ w = w' := by
  rcases h with h | rfl | rfl
  · have := sf_ascii r w hT h
    unfold nx
    rw [if_pos h]
    exact this
  · exact sf_8490 w hT
  · exact sf_383 w hT

theorem orbit_all : ∀ c : Fin 128, (nx c.val < 128 ∨ nx c.val = 8490 ∨ nx c.val = 383) ∧ (nx (nx c.val) < 128 ∨ nx (nx c.val) = 8490 ∨ nx (nx c.val) = 383) ∧ (nx (nx (nx c.val)) < 128 ∨ nx (nx (nx c.val)) = 8490 ∨ nx (nx (nx c.val)) = 383) ∧ (nx c.val = c.val ∨ nx (nx c.val) = c.val ∨ nx (nx (nx c.val)) = c.val) := by decide

set_option maxHeartbeats 400000 in
set_option maxRecDepth 100000 in
/-- utf8.DecodeRuneInString at a text that begins with an ASCII byte. -/
theorem decode_ascii1 (t : ByteArray) (w : World) (h0 : 0 < t.size) (h : t[0].toNat < 128) : Calls Tryd.prog 31 #[.string t] w fun e w' => e = .returned (.tuple #[.int .i32 (t[0].toNat : Nat), .int .i64 1]) ∧ w = w' := by
  have hne : t.toList.isEmpty = false := by
    rw [Lib.toList_data, List.isEmpty_eq_false_iff]
    intro e
    rw [Lib.size_eq, e] at h0
    exact absurd h0 (by decide)
  obtain ⟨x, hx⟩ : ∃ x : UInt8, t[0] = x := ⟨_, rfl⟩
  rw [hx] at h ⊢
  have hxi : (x.toNat : Int) < 128 := by omega
  clear h
  go_enter Tryd.func31, Tryd.ntmps31
  go_wp2
  go_ret2
  exact ⟨rfl, rfl⟩

end Go.Proofs.YtalnapcphdmjaaaDoor
