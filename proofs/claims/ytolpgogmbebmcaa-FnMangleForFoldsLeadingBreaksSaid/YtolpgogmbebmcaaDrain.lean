/-
  The contract of dropFirstStatement (and of its shim) on a block of the last m of N statements, with no replacement; conditions: those that it names.
-/
import Derived.Test.YtolpgogmbebmcaaWalkA
namespace Go.Proofs.Ytolpgogmbebmcaa
open Go.RowKit

theorem grown_trans {a b c : World} {row : Option Nat} (h : a.grownBy b row) (k : b.grownBy c row) : a.grownBy c row :=
  ⟨k.os.trans h.os, k.tape.trans h.tape, k.output.trans h.output, Nat.le_trans h.size k.size, fun i hi hne => (k.block i (Nat.lt_of_lt_of_le hi h.size) hne).trans (h.block i hi hne)⟩

/-- The block's state: the last m of N statements are left. -/
def Left (w : World) (g b N m : Nat) (D : Nat → Value) : Prop :=
  ∃ A, Blk w g (.slice A m m) 0 ∧ m ≤ N ∧ N ≤ 131072 ∧ (1 ≤ m → A = some ⟨b, (N - m) * 2, none⟩ ∧ b ≠ g ∧ Row w b 32 (N * 2) (sc D (fun i => (i : Int) + 1)))

def DrainEnd (w w' : World) (g b N m k : Nat) (D : Nat → Value) (v : Value) (l : Int) : Prop :=
  (1 ≤ m ∧ (m = 2 → 20 ≤ k) ∧ v = .iface 26 (.pointer (some ⟨g, 0, none⟩)) ∧ l = 16777216 ∧ Left w' g b N (m - 1) D) ∨
  (m = 2 ∧ k < 20 ∧ IsKind w 0 k v ∧ l = (N : Int)) ∨
  (m = 0 ∧ (∃ q, v = .iface 76 (.pointer (some ⟨q, 0, none⟩))) ∧ l = 16777216)

def DrainPost (g b N m k : Nat) (D : Nat → Value) (w : World) (e : Ending) (w' : World) : Prop :=
  ∃ v l, e = .returned (.agg #[v, .int .i32 l]) ∧ v.oneCell' = true ∧ w.grownBy w' (some g) ∧ DrainEnd w w' g b N m k D v l

theorem grown_any {w w' : World} (h : w.grownBy w' none) (row : Option Nat) : w.grownBy w' row := ⟨h.os, h.tape, h.output, h.size, fun i hi _ => h.block i hi (by simp)⟩

theorem drain26 (g b N m k : Nat) (D : Nat → Value) (rl : Int) (w : World) (hL : Left w g b N m D) (hk : m = 2 → IsKind w 0 k (D (N - 1))) :
    Calls Try.prog 26 #[.agg #[.iface 26 (.pointer (some ⟨g, 0, none⟩)), .int .i32 16777216], .agg #[.nilIface, .int .i32 rl]] w (DrainPost g b N m k D w) := by
  obtain ⟨A, hB, hmN, hN, hA⟩ := hL
  by_cases h0 : m = 0
  · subst h0
    refine (keep_block_none g 0 A 0 16777216 rl w hB).mono ?_
    rintro e w' ⟨⟨q, rfl⟩, hbe⟩
    exact ⟨_, _, rfl, rfl, grown_any (grown_of_below hbe) _, .inr (.inr ⟨rfl, ⟨q, rfl⟩, rfl⟩)⟩
  · obtain ⟨rfl, hbg, hR⟩ := hA (by omega)
    have hne : some b ≠ some g := by simpa using hbg
    by_cases h2 : m = 2
    · subst h2
      have hk := hk rfl
      have c1 : w.cell? ⟨b, (N - 2) * 2 + 2, none⟩ = some (D (N - 1)) := by
        have := hR.cell (i := (N - 1) * 2) (by omega)
        rw [sc_even] at this
        rw [show (N - 2) * 2 + 2 = (N - 1) * 2 by omega]
        exact this
      have c2 : w.cell? ⟨b, (N - 2) * 2 + 2 + 1, none⟩ = some (.int .i32 (N : Int)) := by
        have := hR.cell (i := (N - 1) * 2 + 1) (by omega)
        rw [sc_odd] at this
        rw [show (N - 2) * 2 + 2 + 1 = (N - 1) * 2 + 1 by omega, this]
        show some (Value.int .i32 (((N - 1 : Nat) : Int) + 1)) = _
        rw [show ((N - 1 : Nat) : Int) + 1 = (N : Int) by omega]
      by_cases hc : 20 ≤ k
      · refine (drop_cut2 g b _ 2 k 0 0 16777216 rl N (D (N - 1)) w (Nat.le_refl _) (by omega) hB hR.lt c1 c2 hk hc).mono ?_
        rintro e w' ⟨rfl, hB', hg⟩
        exact ⟨_, _, rfl, rfl, hg, .inl ⟨by omega, fun _ => hc, rfl, rfl, _, hB', by omega, hN, fun _ => ⟨by rw [show (N - 2) * 2 + 2 = (N - (2 - 1)) * 2 by omega], hbg, hR.grown hg hne⟩⟩⟩
      · refine (drop_two g b _ 2 k 0 0 16777216 rl N (D (N - 1)) w hB hR.lt c1 c2 hk (by omega)).mono ?_
        rintro e w' ⟨rfl, hbe⟩
        exact ⟨_, _, rfl, hk.one, grown_any (grown_of_below hbe) _, .inr (.inl ⟨rfl, by omega, hk, rfl⟩)⟩
    · by_cases h1 : m = 1
      · subst h1
        refine (drop_cut1 g b _ 0 16777216 rl w hB).mono ?_
        rintro e w' ⟨rfl, hB', hg⟩
        exact ⟨_, _, rfl, rfl, hg, .inl ⟨by omega, (fun e => by omega), rfl, rfl, _, hB', by omega, hN, fun h => absurd h (by omega)⟩⟩
      · refine (drop_cut g b _ m m 0 16777216 rl w (by omega) (by simp; omega) (Nat.le_refl _) (by omega) (by omega) hB).mono ?_
        rintro e w' ⟨rfl, hB', hg⟩
        exact ⟨_, _, rfl, rfl, hg, .inl ⟨by omega, (fun e => absurd e h2), rfl, rfl, _, hB', by omega, hN, fun _ => ⟨by rw [show (N - m) * 2 + 2 = (N - (m - 1)) * 2 by omega], hbg, hR.grown hg hne⟩⟩⟩

theorem Left.same {w w' : World} {g b N m : Nat} {D : Nat → Value} (h : Left w g b N m D) (hg : w'.heap[g]? = w.heap[g]?) (hb : 1 ≤ m → w'.heap[b]? = w.heap[b]?) : Left w' g b N m D := by
  obtain ⟨A, h1, h2, h3, h4⟩ := h
  exact ⟨A, hg.trans h1, h2, h3, fun hm => ⟨(h4 hm).1, (h4 hm).2.1, (h4 hm).2.2.same (hb hm)⟩⟩
theorem Left.lt {w : World} {g b N m : Nat} {D : Nat → Value} (h : Left w g b N m D) : g < w.heap.size := by
  obtain ⟨A, h1, _⟩ := h
  exact h1.lt

theorem Left.below {w w' : World} {g b N m : Nat} {D : Nat → Value} (h : Left w g b N m D) (hb : Below w.heap.size w w') : Left w' g b N m D := by
  obtain ⟨A, h1, h2, h3, h4⟩ := h
  exact ⟨A, h1.below hb h1.lt, h2, h3, fun hm => ⟨(h4 hm).1, (h4 hm).2.1, (h4 hm).2.2.below hb (h4 hm).2.2.lt⟩⟩

theorem IsKind.shape {w : World} {B k : Nat} {v : Value} (h : IsKind w B k v) : v = .nilIface ∨ ∃ T q, v = .iface T (.pointer (some ⟨q, 0, none⟩)) := by
  rcases h with ⟨_, rfl⟩ | ⟨_, b, rfl, _⟩
  · exact .inl rfl
  · exact .inr ⟨_, _, rfl⟩

/-- The same of the shim; the kind is told of the world in which the shim is called. -/
theorem drain12 (g b N m k : Nat) (D : Nat → Value) (rl : Int) (w : World) (hL : Left w g b N m D) (hk : m = 2 → IsKind w 0 k (D (N - 1))) :
    Calls Try.prog 12 #[.agg #[.iface 26 (.pointer (some ⟨g, 0, none⟩)), .int .i32 16777216], .agg #[.nilIface, .int .i32 rl]] w fun e w' =>
      ∃ v l, e = .returned (.agg #[v, .int .i32 l]) ∧ v.oneCell' = true ∧ w.grownBy w' (some g) ∧ ((1 ≤ m ∧ (m = 2 → 20 ≤ k) ∧ v = .iface 26 (.pointer (some ⟨g, 0, none⟩)) ∧ l = 16777216 ∧ Left w' g b N (m - 1) D) ∨
        (m = 2 ∧ k < 20 ∧ (v = .nilIface ∨ ∃ T q, v = .iface T (.pointer (some ⟨q, 0, none⟩))) ∧ l = (N : Int)) ∨ (m = 0 ∧ (∃ q, v = .iface 76 (.pointer (some ⟨q, 0, none⟩))) ∧ l = 16777216)) := by
  have hgl := hL.lt
  have hg3 : w.grownBy (W3 w (.iface 26 (.pointer (some ⟨g, 0, none⟩))) .nilIface 16777216 rl) (some g) := only_alloc (only_alloc (only_alloc (World.grownBy.refl w _) _) _) _
  refine (shim_any' _ _ _ _ (fun v l w4 => v.oneCell' = true ∧ (W3 w (.iface 26 (.pointer (some ⟨g, 0, none⟩))) .nilIface 16777216 rl).grownBy w4 (some g) ∧ DrainEnd (W3 w (.iface 26 (.pointer (some ⟨g, 0, none⟩))) .nilIface 16777216 rl) w4 g b N m k D v l) w
    ((drain26 g b N m k D rl _ (hL.below (W3_below w _ _ _ _)) fun h => (hk h).below (W3_below w _ _ _ _)).mono ?_)).mono ?_
  · rintro e w4 ⟨v, l, rfl, h1, hg, hd⟩
    exact ⟨v, l, some g, rfl, h1, hg, (fun x hx => by cases hx; exact hgl), h1, hg, hd⟩
  · rintro e w' ⟨v, l, w4, rfl, ⟨h1, hg, hd⟩, rfl⟩
    have hgr := only_set (only_set (grown_trans hg3 hg) (p := ⟨w.heap.size + 1 + 1, 0, none⟩) (.inr (by show w.heap.size ≤ w.heap.size + 1 + 1; omega)) v) (p := ⟨w.heap.size + 1 + 1, 1, none⟩) (.inr (by show w.heap.size ≤ w.heap.size + 1 + 1; omega)) (.int .i32 l)
    refine ⟨v, l, rfl, h1, hgr, ?_⟩
    rcases hd with ⟨a1, a2, a3, a4, a5⟩ | ⟨a1, a2, a3, a4⟩ | ⟨a1, a2, a3⟩
    · refine .inl ⟨a1, a2, a3, a4, a5.same ?_ fun hm => ?_⟩
      · rw [Below.heap_setCell _ _ _ g (by show g ≠ w.heap.size + 1 + 1; omega), Below.heap_setCell _ _ _ g (by show g ≠ w.heap.size + 1 + 1; omega)]
      · obtain ⟨A, _, _, _, h4⟩ := hL
        have := (h4 a1).2.2.lt
        rw [Below.heap_setCell _ _ _ b (by show b ≠ w.heap.size + 1 + 1; omega), Below.heap_setCell _ _ _ b (by show b ≠ w.heap.size + 1 + 1; omega)]
    · exact .inr (.inl ⟨a1, a2, a3.shape, a4⟩)
    · exact .inr (.inr ⟨a1, a2, a3⟩)

/-- The shim that asks for a statement's block, at any data. -/
theorem blockOf_any (v : Value) (l : Int) (w : World) (hv : v = .nilIface ∨ ∃ T q, v = .iface T (.pointer (some ⟨q, 0, none⟩))) : Calls Try.prog 15 #[.agg #[v, .int .i32 l]] w fun e w' => ∃ p, e = .returned (.pointer p) ∧ Below w.heap.size w w' := by
  rcases hv with rfl | ⟨T, q, rfl⟩
  · refine (blockOf_nil l w).mono ?_
    rintro e w' ⟨rfl, h⟩
    exact ⟨_, rfl, h⟩
  · by_cases hT : T = 26
    · subst hT
      refine (blockOf_yes q l w).mono ?_
      rintro e w' ⟨rfl, h⟩
      exact ⟨_, rfl, h⟩
    · refine (blockOf_no T _ l w hT).mono ?_
      rintro e w' ⟨rfl, h⟩
      exact ⟨_, rfl, h⟩

end Go.Proofs.Ytolpgogmbebmcaa
