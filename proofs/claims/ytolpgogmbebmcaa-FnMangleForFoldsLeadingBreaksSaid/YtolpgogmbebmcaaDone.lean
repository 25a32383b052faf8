/-
  The contracts of dropFirstStatement, of its shim and of zzCheckDrop in one form: what a body is, what a replacement is, what comes of dropping; conditions: those forms.
-/
import Derived.Test.YtolpgogmbebmcaaCheck
namespace Go.Proofs.Ytolpgogmbebmcaa
open Go.RowKit

def BodyFull (N M : Nat) (w : World) (n k1 g b : Nat) (D : Nat → Value) : Prop :=
  1 ≤ n ∧ n ≤ 131072 ∧ N ≤ g ∧ g < M ∧ N ≤ b ∧ b < M ∧ g ≠ b ∧ Blk w g (.slice (some ⟨b, 0, none⟩) n n) 0 ∧ Row w b 32 (n * 2) (sc D (fun i => (i : Int) + 1)) ∧ (2 ≤ n → IsKind w 0 k1 (D 1))

/-- A body and the pointer to its block (if it is one) of n statements, the second of kind k1; its blocks lie from N on, below M. -/
def Body (N M : Nat) (w : World) (n k1 : Nat) (bd p : Value) : Prop :=
  (∃ g b D, bd = .iface 26 (.pointer (some ⟨g, 0, none⟩)) ∧ p = .pointer (some ⟨g, 0, none⟩) ∧ BodyFull N M w n k1 g b D) ∨
  (∃ g A cap, bd = .iface 26 (.pointer (some ⟨g, 0, none⟩)) ∧ p = .pointer (some ⟨g, 0, none⟩) ∧ n = 0 ∧ Blk w g (.slice A 0 cap) 0) ∨
  (p = .pointer none ∧ (bd = .nilIface ∨ ∃ T q, bd = .iface T (.pointer q) ∧ ¬ T = 26))

/-- A replacement, if one is given. -/
def Repl (h : Bool) (rd : Value) (rl : Int) : Prop := (h = false ∧ rd = .nilIface) ∨ (h = true ∧ rl = 16777217 ∧ ∃ T q, rd = .iface T (.pointer q))

def DoneRepl (M : Nat) (w : World) (n : Nat) (v : Value) (l : Int) (p : Value) : Prop :=
  ∃ g b D L, v = .iface 26 (.pointer (some ⟨g, 0, none⟩)) ∧ p = .pointer (some ⟨g, 0, none⟩) ∧ l = 16777216 ∧ 1 ≤ n ∧ g < M ∧ b < M ∧ Blk w g (.slice (some ⟨b, 0, none⟩) n n) 0 ∧ Row w b 32 (n * 2) (sc D L) ∧ L 0 = 16777217 ∧ ∀ i, 1 ≤ i → i < n → L i = (i : Int) + 1
def DoneTwo (n : Nat) (s2 : Bool) (l : Int) (p : Value) : Prop := ∃ g, p = .pointer (some ⟨g, 0, none⟩) ∧ n = 2 ∧ s2 = false ∧ l = 2
def DoneCut (M : Nat) (w : World) (n : Nat) (s2 : Bool) (v : Value) (l : Int) (p : Value) : Prop :=
  ∃ g b o cap m f, v = .iface 26 (.pointer (some ⟨g, 0, none⟩)) ∧ p = .pointer (some ⟨g, 0, none⟩) ∧ l = 16777216 ∧ 1 ≤ n ∧ (n = 2 → s2 = true) ∧ g < M ∧ b < M ∧ Blk w g (.slice (some ⟨b, o, none⟩) (n - 1) cap) 0 ∧ Row w b 32 m f ∧ ∀ i, i + 1 < n → o + (i * 2 + 1) < m ∧ f (o + (i * 2 + 1)) = .int .i32 ((i : Int) + 2)
def DoneKeep (n : Nat) (h : Bool) (v : Value) (l : Int) (p : Value) : Prop :=
  (p = .pointer none ∨ ∃ g, p = .pointer (some ⟨g, 0, none⟩) ∧ n = 0) ∧ ((h = true ∧ l = 16777217) ∨ (h = false ∧ l = 16777216 ∧ ∃ b, v = .iface 76 (.pointer (some ⟨b, 0, none⟩))))

/-- What comes of dropping the first statement. -/
def Done (M : Nat) (w : World) (n : Nat) (s2 h : Bool) (v : Value) (l : Int) (p : Value) : Prop :=
  (h = true ∧ DoneRepl M w n v l p) ∨ (h = false ∧ DoneTwo n s2 l p) ∨ (h = false ∧ DoneCut M w n s2 v l p) ∨ DoneKeep n h v l p

def DropPost (N M n : Nat) (s2 h : Bool) (p : Value) (w : World) (e : Ending) (w' : World) : Prop :=
  ∃ v l row, e = .returned (.agg #[v, .int .i32 l]) ∧ v.oneCell' = true ∧ w.grownBy w' row ∧ (∀ g, row = some g → (N ≤ g ∧ g < M) ∧ ∃ c, w.cell? ⟨g, 1, none⟩ = some (.int .i32 c)) ∧ Done M w' n s2 h v l p

theorem Blk.cell1 {w : World} {g : Nat} {v : Value} {c : Int} (h : Blk w g v c) : w.cell? ⟨g, 1, none⟩ = some (.int .i32 c) := by
  rw [cell_of_row w g 1 _ 36 (0, 0) h]; rfl
theorem grown_of_below {w w' : World} (h : Below w.heap.size w w') : w.grownBy w' none := ⟨h.os, h.tape, h.output, h.size, fun i hi _ => h.block i hi⟩
theorem below_of_grown {w w' : World} {row : Option Nat} {N : Nat} (h : w.grownBy w' row) (hN : N ≤ w.heap.size) (hr : ∀ g, row = some g → N ≤ g) : Below N w w' :=
  (Below.refl _ _).grown h hN (fun k hk => hr k hk)

theorem drop26_full (N M n k1 g b : Nat) (D : Nat → Value) (h : Bool) (rd : Value) (rl : Int) (w : World) (hb : BodyFull N M w n k1 g b D) (hr : Repl h rd rl) :
    Calls Try.prog 26 #[.agg #[.iface 26 (.pointer (some ⟨g, 0, none⟩)), .int .i32 16777216], .agg #[rd, .int .i32 rl]] w (DropPost N M n (decide (20 ≤ k1)) h (.pointer (some ⟨g, 0, none⟩)) w) := by
  obtain ⟨h1, h2, h3, h4, h5, h6, h7, hB, hR, hk⟩ := hb
  rcases hr with ⟨rfl, rfl⟩ | ⟨rfl, rfl, T, q, rfl⟩
  · have hcell : ∀ i, i < n → w.cell? ⟨b, i * 2 + 1, none⟩ = some (.int .i32 ((i : Int) + 1)) := fun i hi => by
      rw [hR.cell (i := i * 2 + 1) (by omega), sc_odd]
    have hne : some b ≠ some g := by simpa using fun e => h7 e.symm
    have hat : ∀ i, i + 1 < n → 2 + (i * 2 + 1) < n * 2 ∧ sc D (fun i => (i : Int) + 1) (2 + (i * 2 + 1)) = .int .i32 ((i : Int) + 2) := fun i hi => by
      refine ⟨by omega, ?_⟩
      rw [show 2 + (i * 2 + 1) = (i + 1) * 2 + 1 by omega, sc_odd]
      show Value.int .i32 (((i + 1 : Nat) : Int) + 1) = _
      rw [show ((i + 1 : Nat) : Int) + 1 = (i : Int) + 2 by omega]
    have hbl := hR.lt
    by_cases e2 : n = 2
    · subst e2
      have c1 : w.cell? ⟨b, 0 + 2, none⟩ = some (D 1) := by
        have := hR.cell (i := 1 * 2) (by omega)
        rw [sc_even] at this
        simpa using this
      have c2 : w.cell? ⟨b, 0 + 2 + 1, none⟩ = some (.int .i32 2) := by
        have := hcell 1 (by omega)
        simpa using this
      by_cases hc : 20 ≤ k1
      · refine (drop_cut2 g b 0 2 k1 0 0 16777216 rl 2 (D 1) w (Nat.le_refl _) (by omega) hB hbl c1 c2 (hk (by omega)) hc).mono ?_
        rintro e w' ⟨rfl, hB', hg⟩
        exact ⟨_, _, some g, rfl, rfl, hg, (fun x hx => by cases hx; exact ⟨⟨h3, h4⟩, _, hB.cell1⟩), .inr (.inr (.inl ⟨rfl, g, b, 2, 1, _, _, rfl, rfl, rfl, by omega, fun _ => decide_eq_true hc, h4, h6, hB', hR.grown hg hne, hat⟩))⟩
      · refine (drop_two g b 0 2 k1 0 0 16777216 rl 2 (D 1) w hB hbl c1 c2 (hk (by omega)) (by omega)).mono ?_
        rintro e w' ⟨rfl, hbe⟩
        exact ⟨_, _, none, rfl, (hk (by omega)).one, grown_of_below hbe, (fun x hx => by cases hx), .inr (.inl ⟨rfl, g, rfl, rfl, decide_eq_false hc, rfl⟩)⟩
    · by_cases e1 : n = 1
      · subst e1
        refine (drop_cut1 g b 0 0 16777216 rl w hB).mono ?_
        rintro e w' ⟨rfl, hB', hg⟩
        exact ⟨_, _, some g, rfl, rfl, hg, (fun x hx => by cases hx; exact ⟨⟨h3, h4⟩, _, hB.cell1⟩), .inr (.inr (.inl ⟨rfl, g, b, 0, 0, _, _, rfl, rfl, rfl, by omega, (fun e => by omega), h4, h6, hB', hR.grown hg hne, fun i hi => by omega⟩))⟩
      · refine (drop_cut g b 0 n n 0 16777216 rl w h1 (by simp; omega) (Nat.le_refl _) (by omega) (by omega) hB).mono ?_
        rintro e w' ⟨rfl, hB', hg⟩
        exact ⟨_, _, some g, rfl, rfl, hg, (fun x hx => by cases hx; exact ⟨⟨h3, h4⟩, _, hB.cell1⟩), .inr (.inr (.inl ⟨rfl, g, b, 2, n - 1, _, _, rfl, rfl, rfl, by omega, (fun e => by omega), h4, h6, hB', hR.grown hg hne, hat⟩))⟩
  · refine (drop_repl g b 0 n n n T 0 16777216 16777217 q D (fun i => (i : Int) + 1) w h1 (by omega) (by simpa using hB) h7 hR).mono ?_
    rintro e w' ⟨rfl, hB', hR', hg⟩
    exact ⟨_, _, some b, rfl, rfl, hg, (fun x hx => by cases hx; exact ⟨⟨h5, h6⟩, _, by have := hR.cell (i := 0 * 2 + 1) (by omega); rw [sc_odd] at this; exact this⟩), .inl ⟨rfl, g, b, _, _, rfl, rfl, rfl, h1, h4, h6, by simpa using hB', hR', rfl, fun i h1 h2 => if_neg (by omega)⟩⟩

theorem drop26_any (N M n k1 : Nat) (h : Bool) (bd p rd : Value) (rl : Int) (w : World) (hb : Body N M w n k1 bd p) (hr : Repl h rd rl) :
    Calls Try.prog 26 #[.agg #[bd, .int .i32 16777216], .agg #[rd, .int .i32 rl]] w (DropPost N M n (decide (20 ≤ k1)) h p w) := by
  rcases hb with ⟨g, b, D, rfl, rfl, hb⟩ | ⟨g, A, cap, rfl, rfl, rfl, hB⟩ | ⟨rfl, rfl | ⟨T0, q0, rfl, hT⟩⟩
  · exact drop26_full N M n k1 g b D h rd rl w hb hr
  · rcases hr with ⟨rfl, rfl⟩ | ⟨rfl, rfl, T, q, rfl⟩
    · refine (keep_block_none g cap A 0 16777216 rl w hB).mono ?_
      rintro e w' ⟨⟨b, rfl⟩, hbe⟩
      exact ⟨_, _, none, rfl, rfl, grown_of_below hbe, (fun x hx => by cases hx), .inr (.inr (.inr ⟨.inr ⟨g, rfl, rfl⟩, .inr ⟨rfl, rfl, b, rfl⟩⟩))⟩
    · refine (keep_block_repl g cap A 0 T q 16777216 16777217 w hB).mono ?_
      rintro e w' ⟨rfl, hbe⟩
      exact ⟨_, _, none, rfl, rfl, grown_of_below hbe, (fun x hx => by cases hx), .inr (.inr (.inr ⟨.inr ⟨g, rfl, rfl⟩, .inl ⟨rfl, rfl⟩⟩))⟩
  · rcases hr with ⟨rfl, rfl⟩ | ⟨rfl, rfl, T, q, rfl⟩
    · refine (keep_nil_none 16777216 rl w).mono ?_
      rintro e w' ⟨⟨b, rfl⟩, hbe⟩
      exact ⟨_, _, none, rfl, rfl, grown_of_below hbe, (fun x hx => by cases hx), .inr (.inr (.inr ⟨.inl rfl, .inr ⟨rfl, rfl, b, rfl⟩⟩))⟩
    · refine (keep_nil_repl T q 16777216 16777217 w).mono ?_
      rintro e w' ⟨rfl, hbe⟩
      exact ⟨_, _, none, rfl, rfl, grown_of_below hbe, (fun x hx => by cases hx), .inr (.inr (.inr ⟨.inl rfl, .inl ⟨rfl, rfl⟩⟩))⟩
  · rcases hr with ⟨rfl, rfl⟩ | ⟨rfl, rfl, T, q, rfl⟩
    · refine (keep_other_none T0 q0 16777216 rl w hT).mono ?_
      rintro e w' ⟨⟨b, rfl⟩, hbe⟩
      exact ⟨_, _, none, rfl, rfl, grown_of_below hbe, (fun x hx => by cases hx), .inr (.inr (.inr ⟨.inl rfl, .inr ⟨rfl, rfl, b, rfl⟩⟩))⟩
    · refine (keep_other_repl T0 q0 T q 16777216 16777217 w hT).mono ?_
      rintro e w' ⟨rfl, hbe⟩
      exact ⟨_, _, none, rfl, rfl, grown_of_below hbe, (fun x hx => by cases hx), .inr (.inr (.inr ⟨.inl rfl, .inl ⟨rfl, rfl⟩⟩))⟩

theorem Row.same {w w' : World} {g n : Nat} {t : TypeId} {f : Nat → Value} (h : Row w g t n f) (he : w'.heap[g]? = w.heap[g]?) : Row w' g t n f := by
  obtain ⟨cs, h1, h2, h3⟩ := h
  exact ⟨cs, he.trans h1, h2, h3⟩
theorem Done.same {M n : Nat} {w w' : World} {s2 h : Bool} {v : Value} {l : Int} {p : Value} (hd : Done M w n s2 h v l p) (he : ∀ i, i < M → w'.heap[i]? = w.heap[i]?) : Done M w' n s2 h v l p := by
  rcases hd with ⟨rfl, g, b, D, L, hv, hp, hl, hn, hg, hb, hB, hR, h0, hL⟩ | hd | ⟨rfl, g, b, o, cap, m, f, hv, hp, hl, hn, h2, hg, hb, hB, hR, hL⟩ | hd
  · exact .inl ⟨rfl, g, b, D, L, hv, hp, hl, hn, hg, hb, (he g hg).trans hB, hR.same (he b hb), h0, hL⟩
  · exact .inr (.inl hd)
  · exact .inr (.inr (.inl ⟨rfl, g, b, o, cap, m, f, hv, hp, hl, hn, h2, hg, hb, (he g hg).trans hB, hR.same (he b hb), hL⟩))
  · exact .inr (.inr (.inr hd))
theorem Body.same {N M n k1 : Nat} {w w' : World} {bd p : Value} (hd : Body N M w n k1 bd p) (hb : Below w.heap.size w w') : Body N M w' n k1 bd p := by
  rcases hd with ⟨g, b, D, hv, hp, h1, h2, h3, h4, h5, h6, h7, hB, hR, hk⟩ | ⟨g, A, cap, hv, hp, hn, hB⟩ | hd
  · exact .inl ⟨g, b, D, hv, hp, h1, h2, h3, h4, h5, h6, h7, hB.below hb hB.lt, hR.below hb hR.lt, fun h => (hk h).below hb⟩
  · exact .inr (.inl ⟨g, A, cap, hv, hp, hn, hB.below hb hB.lt⟩)
  · exact .inr (.inr hd)

theorem W3_below (w : World) (a b : Value) (k l : Int) : Below w.heap.size w (W3 w a b k l) := below3 w _ _ _

/-- The shim. -/
theorem drop12_any (N M n k1 : Nat) (h : Bool) (bd p rd : Value) (rl : Int) (w : World) (hb : Body N M w n k1 bd p) (hr : Repl h rd rl) (hM : M ≤ w.heap.size) (hN : N ≤ w.heap.size) :
    Calls Try.prog 12 #[.agg #[bd, .int .i32 16777216], .agg #[rd, .int .i32 rl]] w fun e w' => ∃ v l, e = .returned (.agg #[v, .int .i32 l]) ∧ v.oneCell' = true ∧ Done M w' n (decide (20 ≤ k1)) h v l p ∧ Below N w w' := by
  refine (shim_any' bd rd 16777216 rl (fun v l w4 => v.oneCell' = true ∧ Done M w4 n (decide (20 ≤ k1)) h v l p ∧ Below N w w4) w ((drop26_any N M n k1 h bd p rd rl _ (hb.same (W3_below w bd rd 16777216 rl)) hr).mono ?_)).mono ?_
  · rintro e w4 ⟨v, l, row, rfl, h1, hg, hrow, hd⟩
    exact ⟨v, l, row, rfl, h1, hg, fun g e => Nat.lt_of_lt_of_le (hrow g e).1.2 hM, h1, hd, ((W3_below w bd rd 16777216 rl).mono hN).trans (below_of_grown hg (by simp [W3]; omega) fun g e => (hrow g e).1.1)⟩
  · rintro e w' ⟨v, l, w4, rfl, ⟨h1, hd, hbe⟩, rfl⟩
    refine ⟨v, l, rfl, h1, hd.same fun i hi => ?_, (hbe.setCell (p := ⟨w.heap.size + 1 + 1, 0, none⟩) (by show N ≤ w.heap.size + 1 + 1; omega) _).setCell (p := ⟨w.heap.size + 1 + 1, 1, none⟩) (by show N ≤ w.heap.size + 1 + 1; omega) _⟩
    rw [Below.heap_setCell _ _ _ i (by show i ≠ w.heap.size + 1 + 1; omega), Below.heap_setCell _ _ _ i (by show i ≠ w.heap.size + 1 + 1; omega)]

theorem check13_any (M n : Nat) (s2 h : Bool) (v : Value) (l : Int) (p : Value) (w : World) (hn : n ≤ 131072) (hd : Done M w n s2 h v l p) :
    Calls Try.prog 13 #[.agg #[v, .int .i32 l], p, .int .i64 n, .bool s2, .bool h] w fun e w' => e = .returned (.bool true) ∧ Below w.heap.size w w' := by
  rcases hd with ⟨rfl, g, b, D, L, rfl, rfl, rfl, h1, _, _, hB, hR, h0, hL⟩ | ⟨rfl, g, rfl, rfl, rfl, rfl⟩ | ⟨rfl, g, b, o, cap, m, f, rfl, rfl, rfl, h1, h2, _, _, hB, hR, hL⟩ | ⟨hp, ⟨rfl, rfl⟩ | ⟨rfl, rfl, b, rfl⟩⟩
  · exact check_repl g b n n 0 s2 D L w h1 hn hB hR h0 hL
  · exact check_two g v w
  · exact check_cut g b o n cap m 0 s2 f w h1 hn h2 hB hR hL
  · exact check_keep_repl v p n s2 w hp
  · exact check_keep_none b p n s2 w hp

end Go.Proofs.Ytolpgogmbebmcaa
