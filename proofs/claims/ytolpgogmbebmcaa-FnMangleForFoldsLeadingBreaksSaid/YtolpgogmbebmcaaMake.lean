/-
  The contracts of zzNorm, zzCaresModel, zzMake and stmtCaresAboutScope: a statement of each kind, and whether it cares about scope; conditions: those that each names.
-/
import Derived.Test.YtolpgogmbebmcaaRows
import Derived.WalkKit
import Derived.WalkSpells
import Derived.WalkLawsBesides
import Derived.Lib.Hide
namespace Go.Proofs.Ytolpgogmbebmcaa
open Go.RowKit

/-- The type of the data of kind k (below 25). -/
def kt (k : Nat) : TypeId := [26, 76, 79, 81, 59, 45, 84, 87, 92, 95, 98, 101, 106, 110, 113, 60, 116, 118, 122, 129, 129, 129, 134, 142, 146].getD k 0

/-- In w the value v is the data of a statement of kind k; what it leads to lies from block B on. -/
def IsKind (w : World) (B k : Nat) (v : Value) : Prop :=
  (k = 25 ∧ v = .nilIface) ∨ (k < 25 ∧ ∃ b, v = .iface (kt k) (.pointer (some ⟨b, 0, none⟩)) ∧ B ≤ b ∧ b < w.heap.size ∧ (19 ≤ k → k ≤ 21 → w.cell? ⟨b, 1, none⟩ = some (.int .u8 ((k : Int) - 19))))

theorem IsKind.below {w w' : World} {B k : Nat} {v : Value} (h : IsKind w B k v) (hb : Below w.heap.size w w') : IsKind w' B k v := by
  rcases h with h | ⟨hk, b, hv, hB, hl, hc⟩
  · exact .inl h
  · exact .inr ⟨hk, b, hv, hB, Nat.lt_of_lt_of_le hl hb.size, fun h1 h2 => by rw [hb.cell (p := ⟨b, 1, none⟩) hl]; exact hc h1 h2⟩

theorem new_cell (w : World) (cs : Array Value) (t : TypeId) (i n : Nat) (u : Value) (hn : w.heap.size = n) (h : cs[i]? = some u) : (w.alloc (.cells cs t)).cell? ⟨n, i, none⟩ = some u := by
  subst hn
  rw [cell_of_row _ _ i cs t (0, 0) (heap_alloc_new w _)]
  exact h

def MakePost (k : Nat) (loc : Int) (w : World) (e : Ending) (w' : World) : Prop :=
  ∃ v, e = .returned (.agg #[v, .int .i32 loc]) ∧ IsKind w' w.heap.size k v ∧ Below w.heap.size w w'

set_option maxHeartbeats 1000000 in
set_option maxRecDepth 100000 in
theorem make_0 (loc : Int) (w : World) : Calls Try.prog 10 #[.int .i64 0, .int .i32 loc, .bool false] w (MakePost 0 loc w) := by
  go_enter Try.func10, Try.ntmps10
  go_wp2
  exact bodyPost_ret (v := .agg #[.iface 26 (.pointer (some ⟨w.heap.size + 1 + 1, 0, none⟩)), .int .i32 loc]) (by simp [results, Try.results10, go_sem]) rfl ⟨_, rfl, .inr ⟨by decide, w.heap.size + 1 + 1, rfl, by omega, by simp, fun h1 h2 => by omega⟩, (((Below.refl _ _).alloc (Nat.le_refl _) _).alloc (by simp) _).alloc (by simp; omega) _⟩
set_option maxHeartbeats 1000000 in
set_option maxRecDepth 100000 in
theorem make_1 (loc : Int) (w : World) : Calls Try.prog 10 #[.int .i64 1, .int .i32 loc, .bool false] w (MakePost 1 loc w) := by
  go_enter Try.func10, Try.ntmps10
  go_wp2
  exact bodyPost_ret (v := .agg #[.iface 76 (.pointer (some ⟨w.heap.size + 1 + 1, 0, none⟩)), .int .i32 loc]) (by simp [results, Try.results10, go_sem]) rfl ⟨_, rfl, .inr ⟨by decide, w.heap.size + 1 + 1, rfl, by omega, by simp, fun h1 h2 => by omega⟩, (((Below.refl _ _).alloc (Nat.le_refl _) _).alloc (by simp) _).alloc (by simp; omega) _⟩
set_option maxHeartbeats 1000000 in
set_option maxRecDepth 100000 in
theorem make_2 (loc : Int) (w : World) : Calls Try.prog 10 #[.int .i64 2, .int .i32 loc, .bool false] w (MakePost 2 loc w) := by
  go_enter Try.func10, Try.ntmps10
  go_wp2
  exact bodyPost_ret (v := .agg #[.iface 79 (.pointer (some ⟨w.heap.size + 1 + 1, 0, none⟩)), .int .i32 loc]) (by simp [results, Try.results10, go_sem]) rfl ⟨_, rfl, .inr ⟨by decide, w.heap.size + 1 + 1, rfl, by omega, by simp, fun h1 h2 => by omega⟩, (((Below.refl _ _).alloc (Nat.le_refl _) _).alloc (by simp) _).alloc (by simp; omega) _⟩
set_option maxHeartbeats 1000000 in
set_option maxRecDepth 100000 in
theorem make_3 (loc : Int) (w : World) : Calls Try.prog 10 #[.int .i64 3, .int .i32 loc, .bool false] w (MakePost 3 loc w) := by
  go_enter Try.func10, Try.ntmps10
  go_wp2
  exact bodyPost_ret (v := .agg #[.iface 81 (.pointer (some ⟨w.heap.size + 1 + 1, 0, none⟩)), .int .i32 loc]) (by simp [results, Try.results10, go_sem]) rfl ⟨_, rfl, .inr ⟨by decide, w.heap.size + 1 + 1, rfl, by omega, by simp, fun h1 h2 => by omega⟩, (((Below.refl _ _).alloc (Nat.le_refl _) _).alloc (by simp) _).alloc (by simp; omega) _⟩
set_option maxHeartbeats 1000000 in
set_option maxRecDepth 100000 in
theorem make_4 (loc : Int) (w : World) : Calls Try.prog 10 #[.int .i64 4, .int .i32 loc, .bool false] w (MakePost 4 loc w) := by
  go_enter Try.func10, Try.ntmps10
  go_wp2
  exact bodyPost_ret (v := .agg #[.iface 59 (.pointer (some ⟨w.heap.size + 1 + 1, 0, none⟩)), .int .i32 loc]) (by simp [results, Try.results10, go_sem]) rfl ⟨_, rfl, .inr ⟨by decide, w.heap.size + 1 + 1, rfl, by omega, by simp, fun h1 h2 => by omega⟩, (((Below.refl _ _).alloc (Nat.le_refl _) _).alloc (by simp) _).alloc (by simp; omega) _⟩
set_option maxHeartbeats 1000000 in
set_option maxRecDepth 100000 in
theorem make_5 (loc : Int) (w : World) : Calls Try.prog 10 #[.int .i64 5, .int .i32 loc, .bool false] w (MakePost 5 loc w) := by
  go_enter Try.func10, Try.ntmps10
  go_wp2
  exact bodyPost_ret (v := .agg #[.iface 45 (.pointer (some ⟨w.heap.size + 1 + 1, 0, none⟩)), .int .i32 loc]) (by simp [results, Try.results10, go_sem]) rfl ⟨_, rfl, .inr ⟨by decide, w.heap.size + 1 + 1, rfl, by omega, by simp, fun h1 h2 => by omega⟩, (((Below.refl _ _).alloc (Nat.le_refl _) _).alloc (by simp) _).alloc (by simp; omega) _⟩
set_option maxHeartbeats 1000000 in
set_option maxRecDepth 100000 in
theorem make_6 (loc : Int) (w : World) : Calls Try.prog 10 #[.int .i64 6, .int .i32 loc, .bool false] w (MakePost 6 loc w) := by
  go_enter Try.func10, Try.ntmps10
  go_wp2
  exact bodyPost_ret (v := .agg #[.iface 84 (.pointer (some ⟨w.heap.size + 1 + 1, 0, none⟩)), .int .i32 loc]) (by simp [results, Try.results10, go_sem]) rfl ⟨_, rfl, .inr ⟨by decide, w.heap.size + 1 + 1, rfl, by omega, by simp, fun h1 h2 => by omega⟩, (((Below.refl _ _).alloc (Nat.le_refl _) _).alloc (by simp) _).alloc (by simp; omega) _⟩
set_option maxHeartbeats 1000000 in
set_option maxRecDepth 100000 in
theorem make_7 (loc : Int) (w : World) : Calls Try.prog 10 #[.int .i64 7, .int .i32 loc, .bool false] w (MakePost 7 loc w) := by
  go_enter Try.func10, Try.ntmps10
  go_wp2
  exact bodyPost_ret (v := .agg #[.iface 87 (.pointer (some ⟨w.heap.size + 1 + 1, 0, none⟩)), .int .i32 loc]) (by simp [results, Try.results10, go_sem]) rfl ⟨_, rfl, .inr ⟨by decide, w.heap.size + 1 + 1, rfl, by omega, by simp, fun h1 h2 => by omega⟩, (((Below.refl _ _).alloc (Nat.le_refl _) _).alloc (by simp) _).alloc (by simp; omega) _⟩
set_option maxHeartbeats 1000000 in
set_option maxRecDepth 100000 in
theorem make_8 (loc : Int) (w : World) : Calls Try.prog 10 #[.int .i64 8, .int .i32 loc, .bool false] w (MakePost 8 loc w) := by
  go_enter Try.func10, Try.ntmps10
  go_wp2
  exact bodyPost_ret (v := .agg #[.iface 92 (.pointer (some ⟨w.heap.size + 1 + 1, 0, none⟩)), .int .i32 loc]) (by simp [results, Try.results10, go_sem]) rfl ⟨_, rfl, .inr ⟨by decide, w.heap.size + 1 + 1, rfl, by omega, by simp, fun h1 h2 => by omega⟩, (((Below.refl _ _).alloc (Nat.le_refl _) _).alloc (by simp) _).alloc (by simp; omega) _⟩
set_option maxHeartbeats 1000000 in
set_option maxRecDepth 100000 in
theorem make_9 (loc : Int) (w : World) : Calls Try.prog 10 #[.int .i64 9, .int .i32 loc, .bool false] w (MakePost 9 loc w) := by
  go_enter Try.func10, Try.ntmps10
  go_wp2
  exact bodyPost_ret (v := .agg #[.iface 95 (.pointer (some ⟨w.heap.size + 1 + 1, 0, none⟩)), .int .i32 loc]) (by simp [results, Try.results10, go_sem]) rfl ⟨_, rfl, .inr ⟨by decide, w.heap.size + 1 + 1, rfl, by omega, by simp, fun h1 h2 => by omega⟩, (((Below.refl _ _).alloc (Nat.le_refl _) _).alloc (by simp) _).alloc (by simp; omega) _⟩
set_option maxHeartbeats 1000000 in
set_option maxRecDepth 100000 in
theorem make_10 (loc : Int) (w : World) : Calls Try.prog 10 #[.int .i64 10, .int .i32 loc, .bool false] w (MakePost 10 loc w) := by
  go_enter Try.func10, Try.ntmps10
  go_wp2
  exact bodyPost_ret (v := .agg #[.iface 98 (.pointer (some ⟨w.heap.size + 1 + 1, 0, none⟩)), .int .i32 loc]) (by simp [results, Try.results10, go_sem]) rfl ⟨_, rfl, .inr ⟨by decide, w.heap.size + 1 + 1, rfl, by omega, by simp, fun h1 h2 => by omega⟩, (((Below.refl _ _).alloc (Nat.le_refl _) _).alloc (by simp) _).alloc (by simp; omega) _⟩
set_option maxHeartbeats 1000000 in
set_option maxRecDepth 100000 in
theorem make_11 (loc : Int) (w : World) : Calls Try.prog 10 #[.int .i64 11, .int .i32 loc, .bool false] w (MakePost 11 loc w) := by
  go_enter Try.func10, Try.ntmps10
  go_wp2
  exact bodyPost_ret (v := .agg #[.iface 101 (.pointer (some ⟨w.heap.size + 1 + 1, 0, none⟩)), .int .i32 loc]) (by simp [results, Try.results10, go_sem]) rfl ⟨_, rfl, .inr ⟨by decide, w.heap.size + 1 + 1, rfl, by omega, by simp, fun h1 h2 => by omega⟩, (((Below.refl _ _).alloc (Nat.le_refl _) _).alloc (by simp) _).alloc (by simp; omega) _⟩
set_option maxHeartbeats 1000000 in
set_option maxRecDepth 100000 in
theorem make_12 (loc : Int) (w : World) : Calls Try.prog 10 #[.int .i64 12, .int .i32 loc, .bool false] w (MakePost 12 loc w) := by
  go_enter Try.func10, Try.ntmps10
  go_wp2
  exact bodyPost_ret (v := .agg #[.iface 106 (.pointer (some ⟨w.heap.size + 1 + 1, 0, none⟩)), .int .i32 loc]) (by simp [results, Try.results10, go_sem]) rfl ⟨_, rfl, .inr ⟨by decide, w.heap.size + 1 + 1, rfl, by omega, by simp, fun h1 h2 => by omega⟩, (((Below.refl _ _).alloc (Nat.le_refl _) _).alloc (by simp) _).alloc (by simp; omega) _⟩
set_option maxHeartbeats 1000000 in
set_option maxRecDepth 100000 in
theorem make_13 (loc : Int) (w : World) : Calls Try.prog 10 #[.int .i64 13, .int .i32 loc, .bool false] w (MakePost 13 loc w) := by
  go_enter Try.func10, Try.ntmps10
  go_wp2
  exact bodyPost_ret (v := .agg #[.iface 110 (.pointer (some ⟨w.heap.size + 1 + 1, 0, none⟩)), .int .i32 loc]) (by simp [results, Try.results10, go_sem]) rfl ⟨_, rfl, .inr ⟨by decide, w.heap.size + 1 + 1, rfl, by omega, by simp, fun h1 h2 => by omega⟩, (((Below.refl _ _).alloc (Nat.le_refl _) _).alloc (by simp) _).alloc (by simp; omega) _⟩
set_option maxHeartbeats 1000000 in
set_option maxRecDepth 100000 in
theorem make_14 (loc : Int) (w : World) : Calls Try.prog 10 #[.int .i64 14, .int .i32 loc, .bool false] w (MakePost 14 loc w) := by
  go_enter Try.func10, Try.ntmps10
  go_wp2
  exact bodyPost_ret (v := .agg #[.iface 113 (.pointer (some ⟨w.heap.size + 1 + 1, 0, none⟩)), .int .i32 loc]) (by simp [results, Try.results10, go_sem]) rfl ⟨_, rfl, .inr ⟨by decide, w.heap.size + 1 + 1, rfl, by omega, by simp, fun h1 h2 => by omega⟩, (((Below.refl _ _).alloc (Nat.le_refl _) _).alloc (by simp) _).alloc (by simp; omega) _⟩
set_option maxHeartbeats 1000000 in
set_option maxRecDepth 100000 in
theorem make_15 (loc : Int) (w : World) : Calls Try.prog 10 #[.int .i64 15, .int .i32 loc, .bool false] w (MakePost 15 loc w) := by
  go_enter Try.func10, Try.ntmps10
  go_wp2
  exact bodyPost_ret (v := .agg #[.iface 60 (.pointer (some ⟨w.heap.size + 1 + 1, 0, none⟩)), .int .i32 loc]) (by simp [results, Try.results10, go_sem]) rfl ⟨_, rfl, .inr ⟨by decide, w.heap.size + 1 + 1, rfl, by omega, by simp, fun h1 h2 => by omega⟩, (((Below.refl _ _).alloc (Nat.le_refl _) _).alloc (by simp) _).alloc (by simp; omega) _⟩
set_option maxHeartbeats 1000000 in
set_option maxRecDepth 100000 in
theorem make_16 (loc : Int) (w : World) : Calls Try.prog 10 #[.int .i64 16, .int .i32 loc, .bool false] w (MakePost 16 loc w) := by
  go_enter Try.func10, Try.ntmps10
  go_wp2
  exact bodyPost_ret (v := .agg #[.iface 116 (.pointer (some ⟨w.heap.size + 1 + 1, 0, none⟩)), .int .i32 loc]) (by simp [results, Try.results10, go_sem]) rfl ⟨_, rfl, .inr ⟨by decide, w.heap.size + 1 + 1, rfl, by omega, by simp, fun h1 h2 => by omega⟩, (((Below.refl _ _).alloc (Nat.le_refl _) _).alloc (by simp) _).alloc (by simp; omega) _⟩
set_option maxHeartbeats 1000000 in
set_option maxRecDepth 100000 in
theorem make_17 (loc : Int) (w : World) : Calls Try.prog 10 #[.int .i64 17, .int .i32 loc, .bool false] w (MakePost 17 loc w) := by
  go_enter Try.func10, Try.ntmps10
  go_wp2
  exact bodyPost_ret (v := .agg #[.iface 118 (.pointer (some ⟨w.heap.size + 1 + 1, 0, none⟩)), .int .i32 loc]) (by simp [results, Try.results10, go_sem]) rfl ⟨_, rfl, .inr ⟨by decide, w.heap.size + 1 + 1, rfl, by omega, by simp, fun h1 h2 => by omega⟩, (((Below.refl _ _).alloc (Nat.le_refl _) _).alloc (by simp) _).alloc (by simp; omega) _⟩
set_option maxHeartbeats 1000000 in
set_option maxRecDepth 100000 in
theorem make_18 (loc : Int) (w : World) : Calls Try.prog 10 #[.int .i64 18, .int .i32 loc, .bool false] w (MakePost 18 loc w) := by
  go_enter Try.func10, Try.ntmps10
  go_wp2
  exact bodyPost_ret (v := .agg #[.iface 122 (.pointer (some ⟨w.heap.size + 1 + 1, 0, none⟩)), .int .i32 loc]) (by simp [results, Try.results10, go_sem]) rfl ⟨_, rfl, .inr ⟨by decide, w.heap.size + 1 + 1, rfl, by omega, by simp, fun h1 h2 => by omega⟩, (((Below.refl _ _).alloc (Nat.le_refl _) _).alloc (by simp) _).alloc (by simp; omega) _⟩
set_option maxHeartbeats 1000000 in
set_option maxRecDepth 100000 in
theorem make_19 (loc : Int) (w : World) : Calls Try.prog 10 #[.int .i64 19, .int .i32 loc, .bool false] w (MakePost 19 loc w) := by
  go_enter Try.func10, Try.ntmps10
  go_wp2
  exact bodyPost_ret (v := .agg #[.iface 129 (.pointer (some ⟨w.heap.size + 1 + 1, 0, none⟩)), .int .i32 loc]) (by simp [results, Try.results10, go_sem]) rfl ⟨_, rfl, .inr ⟨by decide, w.heap.size + 1 + 1, rfl, by omega, by simp, fun _ _ => new_cell _ _ _ _ _ _ (by simp) rfl⟩, (((Below.refl _ _).alloc (Nat.le_refl _) _).alloc (by simp) _).alloc (by simp; omega) _⟩
set_option maxHeartbeats 1000000 in
set_option maxRecDepth 100000 in
theorem make_20 (loc : Int) (w : World) : Calls Try.prog 10 #[.int .i64 20, .int .i32 loc, .bool false] w (MakePost 20 loc w) := by
  go_enter Try.func10, Try.ntmps10
  go_wp2
  exact bodyPost_ret (v := .agg #[.iface 129 (.pointer (some ⟨w.heap.size + 1 + 1, 0, none⟩)), .int .i32 loc]) (by simp [results, Try.results10, go_sem]) rfl ⟨_, rfl, .inr ⟨by decide, w.heap.size + 1 + 1, rfl, by omega, by simp, fun _ _ => new_cell _ _ _ _ _ _ (by simp) rfl⟩, (((Below.refl _ _).alloc (Nat.le_refl _) _).alloc (by simp) _).alloc (by simp; omega) _⟩
set_option maxHeartbeats 1000000 in
set_option maxRecDepth 100000 in
theorem make_21 (loc : Int) (w : World) : Calls Try.prog 10 #[.int .i64 21, .int .i32 loc, .bool false] w (MakePost 21 loc w) := by
  go_enter Try.func10, Try.ntmps10
  go_wp2
  exact bodyPost_ret (v := .agg #[.iface 129 (.pointer (some ⟨w.heap.size + 1 + 1, 0, none⟩)), .int .i32 loc]) (by simp [results, Try.results10, go_sem]) rfl ⟨_, rfl, .inr ⟨by decide, w.heap.size + 1 + 1, rfl, by omega, by simp, fun _ _ => new_cell _ _ _ _ _ _ (by simp) rfl⟩, (((Below.refl _ _).alloc (Nat.le_refl _) _).alloc (by simp) _).alloc (by simp; omega) _⟩
set_option maxHeartbeats 1000000 in
set_option maxRecDepth 100000 in
theorem make_22 (loc : Int) (w : World) : Calls Try.prog 10 #[.int .i64 22, .int .i32 loc, .bool false] w (MakePost 22 loc w) := by
  go_enter Try.func10, Try.ntmps10
  go_wp2
  exact bodyPost_ret (v := .agg #[.iface 134 (.pointer (some ⟨w.heap.size + 1 + 1, 0, none⟩)), .int .i32 loc]) (by simp [results, Try.results10, go_sem]) rfl ⟨_, rfl, .inr ⟨by decide, w.heap.size + 1 + 1, rfl, by omega, by simp, fun h1 h2 => by omega⟩, (((Below.refl _ _).alloc (Nat.le_refl _) _).alloc (by simp) _).alloc (by simp; omega) _⟩
set_option maxHeartbeats 1000000 in
set_option maxRecDepth 100000 in
theorem make_23 (loc : Int) (w : World) : Calls Try.prog 10 #[.int .i64 23, .int .i32 loc, .bool false] w (MakePost 23 loc w) := by
  go_enter Try.func10, Try.ntmps10
  go_wp2
  exact bodyPost_ret (v := .agg #[.iface 142 (.pointer (some ⟨w.heap.size + 1 + 1, 0, none⟩)), .int .i32 loc]) (by simp [results, Try.results10, go_sem]) rfl ⟨_, rfl, .inr ⟨by decide, w.heap.size + 1 + 1, rfl, by omega, by simp, fun h1 h2 => by omega⟩, (((Below.refl _ _).alloc (Nat.le_refl _) _).alloc (by simp) _).alloc (by simp; omega) _⟩
set_option maxHeartbeats 1000000 in
set_option maxRecDepth 100000 in
theorem make_24 (loc : Int) (w : World) : Calls Try.prog 10 #[.int .i64 24, .int .i32 loc, .bool false] w (MakePost 24 loc w) := by
  go_enter Try.func10, Try.ntmps10
  go_wp2
  exact bodyPost_ret (v := .agg #[.iface 146 (.pointer (some ⟨w.heap.size + 1 + 1, 0, none⟩)), .int .i32 loc]) (by simp [results, Try.results10, go_sem]) rfl ⟨_, rfl, .inr ⟨by decide, w.heap.size + 1 + 1, rfl, by omega, by simp, fun h1 h2 => by omega⟩, (((Below.refl _ _).alloc (Nat.le_refl _) _).alloc (by simp) _).alloc (by simp; omega) _⟩
set_option maxHeartbeats 1000000 in
set_option maxRecDepth 100000 in
theorem make_25 (loc : Int) (w : World) : Calls Try.prog 10 #[.int .i64 25, .int .i32 loc, .bool false] w (MakePost 25 loc w) := by
  go_enter Try.func10, Try.ntmps10
  go_wp2
  exact bodyPost_ret (v := .agg #[.nilIface, .int .i32 loc]) (by simp [results, Try.results10, go_sem]) rfl ⟨_, rfl, .inl ⟨rfl, rfl⟩, ((Below.refl _ _).alloc (Nat.le_refl _) _).alloc (by simp) _⟩

theorem make_any (k : Nat) (hk : k ≤ 25) (loc : Int) (w : World) : Calls Try.prog 10 #[.int .i64 (k : Int), .int .i32 loc, .bool false] w (MakePost k loc w) := by
  match k, hk with
  | 0, _ => exact make_0 loc w
  | 1, _ => exact make_1 loc w
  | 2, _ => exact make_2 loc w
  | 3, _ => exact make_3 loc w
  | 4, _ => exact make_4 loc w
  | 5, _ => exact make_5 loc w
  | 6, _ => exact make_6 loc w
  | 7, _ => exact make_7 loc w
  | 8, _ => exact make_8 loc w
  | 9, _ => exact make_9 loc w
  | 10, _ => exact make_10 loc w
  | 11, _ => exact make_11 loc w
  | 12, _ => exact make_12 loc w
  | 13, _ => exact make_13 loc w
  | 14, _ => exact make_14 loc w
  | 15, _ => exact make_15 loc w
  | 16, _ => exact make_16 loc w
  | 17, _ => exact make_17 loc w
  | 18, _ => exact make_18 loc w
  | 19, _ => exact make_19 loc w
  | 20, _ => exact make_20 loc w
  | 21, _ => exact make_21 loc w
  | 22, _ => exact make_22 loc w
  | 23, _ => exact make_23 loc w
  | 24, _ => exact make_24 loc w
  | 25, _ => exact make_25 loc w
  | (n + 26), h => omega

end Go.Proofs.Ytolpgogmbebmcaa
