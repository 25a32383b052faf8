/-
  The contract of zzCheckDrop: true where the block holds what it should; conditions: those that each case names.
-/
import Derived.Test.YtolpgogmbebmcaaGuard
import Derived.Lib.Builder
namespace Go.Proofs.Ytolpgogmbebmcaa
open Go.RowKit

theorem Blk.below {w w' : World} {g B : Nat} {v : Value} {c : Int} (h : Blk w g v c) (hb : Below B w w') (hg : g < B) : Blk w' g v c := (hb.block g hg).trans h

theorem np26 (a : Addr) (w : World) : (binOp .neq 26 (.pointer (some a)) (.pointer (some a))).run Try.prog w = .ok (.bool false) w := by
  obtain ⟨j, hj⟩ : ∃ j, Try.prog.info? 36 = some j := by
    cases h : Try.prog.info? 36 with
    | none => exact absurd (h.symm.trans rfl) (by
        have h2 : (Try.prog.info? 36).isSome = true := by kernel_rfl
        rw [h] at h2
        cases h2)
    | some j => exact ⟨j, rfl⟩
  exact Lib.run_neq_ptr_same w a Try.underlying26 hj

set_option maxHeartbeats 1000000 in
set_option maxRecDepth 100000 in
theorem check_repl (g b n cap : Nat) (c : Int) (s2 : Bool) (D : Nat → Value) (L : Nat → Int) (w : World) (hn : 1 ≤ n) (hn2 : n ≤ 131072) (hB : Blk w g (.slice (some ⟨b, 0, none⟩) n cap) c) (hR : Row w b 32 (n * 2) (sc D L))
    (h0 : L 0 = 16777217) (hL : ∀ i, 1 ≤ i → i < n → L i = (i : Int) + 1) :
    Calls Try.prog 13 #[.agg #[.iface 26 (.pointer (some ⟨g, 0, none⟩)), .int .i32 16777216], .pointer (some ⟨g, 0, none⟩), .int .i64 n, .bool s2, .bool true] w fun e w' => e = .returned (.bool true) ∧ Below w.heap.size w w' := by
  have hd : decide ((0 : Int) < (n : Int)) = true := by simp; omega
  have t3 := np26
  go_enter Try.func13, Try.ntmps13
  go_wp2_with fail
  refine (blockOf_yes g _ _).mono ?_
  rintro e w2 ⟨rfl, hb2⟩
  have hB2 := (hB.alloc (.cells #[.iface 26 (.pointer (some ⟨g, 0, none⟩)), .int .i32 16777216] 32)).below hb2 (by have := hB.lt; simp; omega)
  have hR2 := (hR.alloc (.cells #[.iface 26 (.pointer (some ⟨g, 0, none⟩)), .int .i32 16777216] 32)).below hb2 (by have := hR.lt; simp; omega)
  have hbb : Below w.heap.size w w2 := ((Below.refl _ _).alloc (Nat.le_refl _) _).trans (hb2.mono (by simp))
  clear hB hR hb2
  have q1 := hB2.cell
  have q2 : w2.cell? ⟨b, 1, none⟩ = some (.int .i32 16777217) := by
    have := hR2.cell (i := 1) (by omega)
    rw [this]
    show some (sc D L (0 * 2 + 1)) = _
    rw [sc_odd, h0]
  have HL := Lib.hid hL
  clear hL h0
  go_wp2_with fail
  go_loop [11] (fun i => ∃ k : Nat, 1 ≤ k ∧ k ≤ n ∧ i = .int .i64 k) (fun i => n - (intOf i).toNat)
  case atStart => exact ⟨1, Nat.le_refl _, hn, rfl⟩
  case round =>
    obtain ⟨k, hk1, hk, rfl⟩ := hrel
    by_cases hlt : k < n
    · have q3 : w2.cell? ⟨b, k * 2 + 1, none⟩ = some (.int .i32 ((k : Int) + 1)) := by
        rw [hR2.cell (i := k * 2 + 1) (by omega), sc_odd, HL.out k hk1 hlt]
      go_wp2_with fail
      exact ⟨⟨k + 1, by omega, by omega, by go_num⟩, by simp [intOf]; omega⟩
    · go_wp2_with fail
      go_ret
      exact ⟨rfl, hbb⟩

set_option maxHeartbeats 1000000 in
set_option maxRecDepth 100000 in
/-- Without a replacement, the second alone. -/
theorem check_two (g : Nat) (v : Value) (w : World) : Calls Try.prog 13 #[.agg #[v, .int .i32 2], .pointer (some ⟨g, 0, none⟩), .int .i64 2, .bool false, .bool false] w fun e w' => e = .returned (.bool true) ∧ Below w.heap.size w w' := by
  go_enter Try.func13, Try.ntmps13
  go_wp2
  go_ret
  exact ⟨rfl, (Below.refl _ _).alloc (Nat.le_refl _) _⟩

set_option maxHeartbeats 1000000 in
set_option maxRecDepth 100000 in
theorem check_cut (g b o n cap m : Nat) (c : Int) (s2 : Bool) (f : Nat → Value) (w : World) (hn : 1 ≤ n) (hn2 : n ≤ 131072) (h2 : n = 2 → s2 = true) (hB : Blk w g (.slice (some ⟨b, o, none⟩) (n - 1) cap) c) (hR : Row w b 32 m f)
    (hL : ∀ i, i + 1 < n → o + (i * 2 + 1) < m ∧ f (o + (i * 2 + 1)) = .int .i32 ((i : Int) + 2)) :
    Calls Try.prog 13 #[.agg #[.iface 26 (.pointer (some ⟨g, 0, none⟩)), .int .i32 16777216], .pointer (some ⟨g, 0, none⟩), .int .i64 n, .bool s2, .bool false] w fun e w' => e = .returned (.bool true) ∧ Below w.heap.size w w' := by
  have hd : decide ((0 : Int) < (n : Int)) = true := by simp; omega
  have hsub : ((n - 1 : Nat) : Int) = (n : Int) - 1 := by omega
  have t3 := np26
  obtain ⟨z, hz⟩ : ∃ z : Bool, ((n : Int) == 2) = z := ⟨_, rfl⟩
  have hzs : z = false ∨ (z = true ∧ s2 = true) := by
    cases z
    · exact .inl rfl
    · exact .inr ⟨rfl, h2 (by simp at hz; omega)⟩
  clear h2
  rcases hzs with rfl | ⟨rfl, rfl⟩
  all_goals
    go_enter Try.func13, Try.ntmps13
    go_wp2_with fail
    refine (blockOf_yes g _ _).mono ?_
    rintro e w2 ⟨rfl, hb2⟩
    have hB2 := (hB.alloc (.cells #[.iface 26 (.pointer (some ⟨g, 0, none⟩)), .int .i32 16777216] 32)).below hb2 (by have := hB.lt; simp; omega)
    have hR2 := (hR.alloc (.cells #[.iface 26 (.pointer (some ⟨g, 0, none⟩)), .int .i32 16777216] 32)).below hb2 (by have := hR.lt; simp; omega)
    have hbb : Below w.heap.size w w2 := ((Below.refl _ _).alloc (Nat.le_refl _) _).trans (hb2.mono (by simp))
    clear hB hR hb2
    have q1 := hB2.cell
    have HL := Lib.hid hL
    clear hL
    go_wp2_with fail
    go_loop [12] (fun i => ∃ k : Nat, k < n ∧ i = .int .i64 k) (fun i => n - (intOf i).toNat)
    case atStart => exact ⟨0, by omega, rfl⟩
    case round =>
      obtain ⟨k, hk, rfl⟩ := hrel
      by_cases hlt : k + 1 < n
      · have q3 : w2.cell? ⟨b, o + (k * 2 + 1), none⟩ = some (.int .i32 ((k : Int) + 2)) := by
          rw [hR2.cell (HL.out k hlt).1, (HL.out k hlt).2]
        have q4 : w2.cell? ⟨b, o + k * 2 + 1, none⟩ = some (.int .i32 ((k : Int) + 2)) := q3
        go_wp2_with fail
        exact ⟨⟨k + 1, by omega, by go_num⟩, by simp [intOf]; omega⟩
      · go_wp2_with fail
        go_ret
        exact ⟨rfl, hbb⟩

set_option maxHeartbeats 1000000 in
set_option maxRecDepth 100000 in
theorem check_keep_repl (v p : Value) (n : Nat) (s2 : Bool) (w : World) (hp : p = .pointer none ∨ ∃ g, p = .pointer (some ⟨g, 0, none⟩) ∧ n = 0) :
    Calls Try.prog 13 #[.agg #[v, .int .i32 16777217], p, .int .i64 n, .bool s2, .bool true] w fun e w' => e = .returned (.bool true) ∧ Below w.heap.size w w' := by
  rcases hp with rfl | ⟨g, rfl, rfl⟩
  · go_enter Try.func13, Try.ntmps13
    go_wp2
    go_ret
    exact ⟨rfl, (Below.refl _ _).alloc (Nat.le_refl _) _⟩
  · go_enter Try.func13, Try.ntmps13
    go_wp2
    go_ret
    exact ⟨rfl, (Below.refl _ _).alloc (Nat.le_refl _) _⟩
set_option maxHeartbeats 1000000 in
set_option maxRecDepth 100000 in
theorem check_keep_none (b : Nat) (p : Value) (n : Nat) (s2 : Bool) (w : World) (hp : p = .pointer none ∨ ∃ g, p = .pointer (some ⟨g, 0, none⟩) ∧ n = 0) :
    Calls Try.prog 13 #[.agg #[.iface 76 (.pointer (some ⟨b, 0, none⟩)), .int .i32 16777216], p, .int .i64 n, .bool s2, .bool false] w fun e w' => e = .returned (.bool true) ∧ Below w.heap.size w w' := by
  rcases hp with rfl | ⟨g, rfl, rfl⟩
  · go_enter Try.func13, Try.ntmps13
    go_wp2_with fail
    refine (isEmpty_yes _ _ _).mono ?_
    rintro e w2 ⟨rfl, hb2⟩
    go_wp2_with fail
    go_ret
    exact ⟨rfl, ((Below.refl _ _).alloc (Nat.le_refl _) _).trans (hb2.mono (by simp))⟩
  · go_enter Try.func13, Try.ntmps13
    go_wp2_with fail
    refine (isEmpty_yes _ _ _).mono ?_
    rintro e w2 ⟨rfl, hb2⟩
    go_wp2_with fail
    go_ret
    exact ⟨rfl, ((Below.refl _ _).alloc (Nat.le_refl _) _).trans (hb2.mono (by simp))⟩

end Go.Proofs.Ytolpgogmbebmcaa
