/-
  Tokens as cells; rows of tokens that are read, rows of tokens that grow; conditions: those that each lemma names.
-/
import Derived.Test.YtjinajfejbpicaaDoorVci
import Derived.Test.YtjinajfejbpicaaDoorSpl
import Derived.Deep.AppendLies
namespace Go.Proofs.YtjinajfejbpicaaDoor
open Go.RowKit

/-- A token's cells. -/
def tokC (t : Tok) : List Value := [.pointer none, .string (S t.text), .int .i32 t.loc, .int .u32 0, .int .u16 0, .int .u8 t.kind, .int .u8 t.ws]
def flat : List Tok → List Value
  | [] => []
  | t :: r => tokC t ++ flat r
theorem flat_len : ∀ l : List Tok, (flat l).length = l.length * 7
  | [] => rfl
  | t :: r => by rw [flat, List.length_append, flat_len r, List.length_cons]; show 7 + _ = _; omega
theorem flat_append : ∀ a b : List Tok, flat (a ++ b) = flat a ++ flat b
  | [], _ => rfl
  | t :: a, b => by rw [List.cons_append, flat, flat, flat_append a b, List.append_assoc]
theorem flat_one (t : Tok) : flat [t] = tokC t := by simp [flat]
theorem flat_get : ∀ (l : List Tok) (i : Nat) (t : Tok) (j : Nat) (u : Value), l[i]? = some t → (tokC t)[j]? = some u → (flat l)[i * 7 + j]? = some u
  | [], i, t, j, u, h, _ => by simp at h
  | x :: r, 0, t, j, u, h, hj => by
    obtain rfl : x = t := by simpa using h
    have hl : j < 7 := (List.getElem?_eq_some_iff.1 hj).1
    rw [flat, List.getElem?_append_left (by show 0 * 7 + j < 7; omega), show 0 * 7 + j = j by omega]
    exact hj
  | x :: r, i + 1, t, j, u, h, hj => by
    rw [flat, List.getElem?_append_right (by show 7 ≤ _; omega)]
    have : (i + 1) * 7 + j - (tokC x).length = i * 7 + j := by show (i + 1) * 7 + j - 7 = _; omega
    rw [this]
    exact flat_get r i t j u (by simpa using h) hj
theorem one_cells (t : Tok) : ∀ u ∈ flat [t], u.oneCell' = true := by
  intro u hu
  rw [flat_one] at hu
  unfold tokC at hu
  simp only [List.mem_cons, List.not_mem_nil, or_false] at hu
  rcases hu with rfl | rfl | rfl | rfl | rfl | rfl | rfl <;> rfl
/-- The slice of these tokens. -/
def TokIn (w : World) (a : Option Addr) (len cap : Nat) (ts : List Tok) : Prop :=
  ts.length = len ∧ len ≤ cap ∧ cap ≤ maxLen ∧ ((ts = []) ∨ ∃ g o, a = some ⟨g, o, none⟩ ∧ ∀ i t, ts[i]? = some t → ∀ j u, (tokC t)[j]? = some u → w.cell? ⟨g, o + (i * 7 + j), none⟩ = some u)
theorem TokIn.up {w w' : World} {a : Option Addr} {len cap : Nat} {ts : List Tok} (h : TokIn w a len cap ts) (hb : Below w.heap.size w w') : TokIn w' a len cap ts := by
  obtain ⟨h1, h2, h3, h4⟩ := h
  refine ⟨h1, h2, h3, ?_⟩
  rcases h4 with h | ⟨g, o, h, h5⟩
  · exact .inl h
  · exact .inr ⟨g, o, h, fun i t ht j u hu => (hb.cell (World.block_lt_of_cell? w _ (h5 i t ht j u hu))).trans (h5 i t ht j u hu)⟩
/-- The head's cells. -/
structure Head (w : World) (g o : Nat) (t : Tok) : Prop where
  c0 : w.cell? ⟨g, o, none⟩ = some (.pointer none)
  c1 : w.cell? ⟨g, o + 1, none⟩ = some (.string (S t.text))
  c2 : w.cell? ⟨g, o + 2, none⟩ = some (.int .i32 t.loc)
  c3 : w.cell? ⟨g, o + 3, none⟩ = some (.int .u32 0)
  c4 : w.cell? ⟨g, o + 4, none⟩ = some (.int .u16 0)
  c5 : w.cell? ⟨g, o + 5, none⟩ = some (.int .u8 t.kind)
  c6 : w.cell? ⟨g, o + 6, none⟩ = some (.int .u8 t.ws)
theorem Head.up {w w' : World} {g o : Nat} {t : Tok} {B : Nat} (h : Head w g o t) (hb : Below B w w') (hg : g < B) : Head w' g o t :=
  ⟨(hb.cell hg).trans h.c0, (hb.cell hg).trans h.c1, (hb.cell hg).trans h.c2, (hb.cell hg).trans h.c3, (hb.cell hg).trans h.c4, (hb.cell hg).trans h.c5, (hb.cell hg).trans h.c6⟩
theorem TokIn.head {w : World} {a : Option Addr} {len cap : Nat} {ts : List Tok} {i : Nat} {t : Tok} (h : TokIn w a len cap ts) (ht : ts[i]? = some t) : ∃ g o, a = some ⟨g, o, none⟩ ∧ Head w g (o + i * 7) t ∧ g < w.heap.size := by
  obtain ⟨h1, h2, h3, h4⟩ := h
  rcases h4 with rfl | ⟨g, o, rfl, h5⟩
  · simp at ht
  · have k := fun j u hu => h5 i t ht j u hu
    have key : ∀ j u, (tokC t)[j]? = some u → w.cell? ⟨g, o + i * 7 + j, none⟩ = some u := fun j u hu => by
      rw [Nat.add_assoc]; exact k j u hu
    have c0 := key 0 _ rfl
    rw [Nat.add_zero] at c0
    exact ⟨g, o, rfl, ⟨c0, key 1 _ rfl, key 2 _ rfl, key 3 _ rfl, key 4 _ rfl, key 5 _ rfl, key 6 _ rfl⟩, World.block_lt_of_cell? w _ c0⟩
/-- All but the first. -/
theorem TokIn.tail {w : World} {g o : Nat} {len cap : Nat} {t : Tok} {ts : List Tok} (h : TokIn w (some ⟨g, o, none⟩) len cap (t :: ts)) (a : Option Addr) (ha : ¬ cap = 1 → a = some ⟨g, o + 7, none⟩) : TokIn w a (len - 1) (cap - 1) ts := by
  obtain ⟨h1, h2, h3, h4⟩ := h
  rw [List.length_cons] at h1
  refine ⟨by omega, by omega, by omega, ?_⟩
  rcases h4 with h | ⟨g', o', e, h5⟩
  · cases h
  · cases e
    by_cases hc : cap = 1
    · exact .inl (List.eq_nil_of_length_eq_zero (by omega))
    · refine .inr ⟨g, o + 7, ha hc, fun i u hu j x hx => ?_⟩
      have := h5 (i + 1) u (by rw [List.getElem?_cons_succ]; exact hu) j x hx
      rw [show o + ((i + 1) * 7 + j) = o + 7 + (i * 7 + j) by omega] at this
      exact this
/-- What a row of tokens that was made reads as. -/
theorem own_tok {w : World} {B : Nat} {v : Value} {n : Nat} {ts : List Tok} (h : w.ownsRow B 48 7 v n (flat ts)) (hl : ts.length = n) : ∃ A cap, v = .slice A n cap ∧ TokIn w A n cap ts := by
  obtain ⟨h1, ⟨rfl, rfl⟩ | ⟨g, cap, cur, rfl, _, hg, hn, hm, hs, ht⟩⟩ := h
  · exact ⟨none, 0, rfl, hl, Nat.le_refl _, by unfold maxLen; omega, .inl (List.eq_nil_of_length_eq_zero hl)⟩
  · refine ⟨_, _, rfl, hl, hn, hm, .inr ⟨g, 0, rfl, fun i t hi j u hu => ?_⟩⟩
    have hk := flat_get ts i t j u hi hu
    rw [show 0 + (i * 7 + j) = i * 7 + j by omega, cell_of_row w g _ cur _ (0, 0) hg, ← Array.getElem?_toList]
    rw [← ht, List.getElem?_take] at hk
    split at hk
    · exact hk
    · cases hk
theorem info48 : (Tryd.prog.info? 48).map (fun i => (i.zero, i.size, i.bytes)) = some (some (.agg #[.pointer none, .string ⟨#[]⟩, .int .i32 0, .int .u32 0, .int .u16 0, .int .u8 0, .int .u8 0]), 7, 40) := by kernel_rfl
theorem seven_at (w : World) (t : Tok) (ty : TypeId) : ∀ j u, (flat [t])[j]? = some u → (w.alloc (.cells #[.pointer none, .string (S t.text), .int .i32 t.loc, .int .u32 0, .int .u16 0, .int .u8 t.kind, .int .u8 t.ws] ty)).cell? ((⟨w.heap.size, 0, none⟩ : Addr).add j) = some u := by
  intro j u hu
  rw [flat_one] at hu
  have e : (⟨w.heap.size, 0, none⟩ : Addr).add j = ⟨w.heap.size, j, none⟩ := by
    unfold Addr.add
    split
    · next h0 => rw [h0]
    · simp
  rw [e]
  unfold tokC at hu
  match j, hu with
  | 0, hu => simp at hu; subst hu; go_simp
  | 1, hu => simp at hu; subst hu; go_simp
  | 2, hu => simp at hu; subst hu; go_simp
  | 3, hu => simp at hu; subst hu; go_simp
  | 4, hu => simp at hu; subst hu; go_simp
  | 5, hu => simp at hu; subst hu; go_simp
  | 6, hu => simp at hu; subst hu; go_simp
  | j + 7, hu => simp at hu

/-- Are texts generic names? -/
def G (l : Bs) : Bool := look genD l
def genL : List (Lit × DataW Unit) := match genD with | .map l => l | _ => []
theorem genD_eq : genD = .map genL := rfl
theorem gen_keys : genL.all (fun p => match p.1 with | .string s => lowL s == s | _ => false) = true := by kernel_rfl
theorem gen_same (l : Bs) (h : G l = true) : lowL l = l := by
  unfold G look at h
  rw [genD_eq] at h
  unfold DataW.atKey at h
  simp only at h
  cases hf : genL.find? (fun p => p.1.sameKey (.string l)) with
  | none => rw [hf] at h; cases h
  | some p =>
    have h1 := List.find?_some hf
    have h2 := List.all_eq_true.1 gen_keys p (List.mem_of_find?_eq_some hf)
    obtain ⟨k, d⟩ := p
    cases k with
    | string s =>
      have hs : s = l := by simpa [Lit.sameKey] using h1
      subst hs
      simpa using h2
    | _ => simp at h2
theorem gen_low (l : Bs) (h : G l = true) : V l = false := by
  unfold V
  rw [gen_same l h]
  unfold G at h
  rw [h]
  rfl
/-- What stands when a step begins: the tables and the parser at the base world, nothing below turned since. -/
structure Ctx (w0 : World) (pb : Nat) (mw : Bool) (w : World) : Prop where
  tabs : Tabs w0
  par : w0.cell? ⟨pb, 50, none⟩ = some (.bool mw)
  below : Below w0.heap.size w0 w
def StepEnd (w0 : World) (n : Nat) (xs : List Value) (r : Option (List Tok × List Tok)) (e : Ending) (w' : World) : Prop :=
  Below w0.heap.size w0 w' ∧ match r with
  | none => e = .returned (.tuple #[.slice none 0 0, .slice none 0 0, .bool false])
  | some (o, rest) => ∃ v' a cap, e = .returned (.tuple #[v', .slice a rest.length cap, .bool true]) ∧ TokIn w0 a rest.length cap rest ∧ w'.ownsRow w0.heap.size 48 7 v' (n + o.length) (xs ++ flat o)
theorem own_up {w w' : World} {B : Nat} {e : TypeId} {s : Nat} {v : Value} {n : Nat} {xs : List Value} (h : w.ownsRow B e s v n xs) (hb : Below w.heap.size w w') : w'.ownsRow B e s v n xs := by
  obtain ⟨h1, h2⟩ := h
  refine ⟨h1, ?_⟩
  rcases h2 with h | ⟨g, cap, cur, h3, h4, h5, h6⟩
  · exact .inl h
  · exact .inr ⟨g, cap, cur, h3, h4, (hb.block g (Array.getElem?_eq_some_iff.1 h5).1).trans h5, h6⟩
theorem own_at {w : World} {B : Nat} {e : TypeId} {g n cap : Nat} {L : List Bs} (h : w.ownsRow B e 1 (.slice (some ⟨g, 0, none⟩) n cap) n (sv L)) {j : Nat} {x : Bs} (hj : L[j]? = some x) : w.cell? ⟨g, j, none⟩ = some (.string (S x)) := by
  have := h.cells (g := g) rfl j (.string (S x)) (by unfold sv; rw [List.getElem?_map, hj]; rfl)
  have e : (⟨g, 0, none⟩ : Addr).add j = ⟨g, j, none⟩ := by
    unfold Addr.add
    split
    · next h0 => rw [h0]
    · simp
  rwa [e] at this
end Go.Proofs.YtjinajfejbpicaaDoor
