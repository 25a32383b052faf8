/-
  Tokens as cells; rows of tokens that are read, rows of tokens that grow; conditions: those that each lemma names.
-/
import Derived.Test.YtjinajfejbpicaaDoorVci
import Derived.Test.YtjinajfejbpicaaDoorSpl
import Derived.Deep.AppendLies
import Derived.Laws.AppendOwn
namespace Go.Proofs.YtjinajfejbpicaaDoor
open Go.RowKit

/-- A token's cells. -/
def tokC (t : Tok) : List Value := [.pointer none, .string (S t.text), .int .i32 t.loc, .int .u32 0, .int .u16 0, .int .u8 t.kind, .int .u8 t.ws]
def flat : List Tok → List Value
  | [] => []
  | t :: r => tokC t ++ flat r
theorem flat_len : ∀ l : List Tok, (flat l).length = l.length * 7
  | [] => rfl
  | t :: r => by rw [flat, List.length_append, flat_len r, List.length_cons]; show 7 + _ = _; omega
theorem flat_append : ∀ a b : List Tok, flat (a ++ b) = flat a ++ flat b
  | [], _ => rfl
  | t :: a, b => by rw [List.cons_append, flat, flat, flat_append a b, List.append_assoc]
theorem flat_one (t : Tok) : flat [t] = tokC t := by simp [flat]
theorem flat_get : ∀ (l : List Tok) (i : Nat) (t : Tok) (j : Nat) (u : Value), l[i]? = some t → (tokC t)[j]? = some u → (flat l)[i * 7 + j]? = some u
  | [], i, t, j, u, h, _ => by simp at h
  | x :: r, 0, t, j, u, h, hj => by
    obtain rfl : x = t := by simpa using h
    have hl : j < 7 := (List.getElem?_eq_some_iff.1 hj).1
    rw [flat, List.getElem?_append_left (by show 0 * 7 + j < 7; omega), show 0 * 7 + j = j by omega]
    exact hj
  | x :: r, i + 1, t, j, u, h, hj => by
    rw [flat, List.getElem?_append_right (by show 7 ≤ _; omega)]
    have : (i + 1) * 7 + j - (tokC x).length = i * 7 + j := by show (i + 1) * 7 + j - 7 = _; omega
    rw [this]
    exact flat_get r i t j u (by simpa using h) hj
theorem one_cells (t : Tok) : ∀ u ∈ flat [t], u.oneCell' = true := by
  intro u hu
  rw [flat_one] at hu
  unfold tokC at hu
  simp only [List.mem_cons, List.not_mem_nil, or_false] at hu
  rcases hu with rfl | rfl | rfl | rfl | rfl | rfl | rfl <;> rfl
/-- The slice of these tokens. -/
def TokIn (w : World) (a : Option Addr) (len cap : Nat) (ts : List Tok) : Prop :=
  ts.length = len ∧ len ≤ cap ∧ cap ≤ maxLen ∧ ((ts = []) ∨ ∃ g o, a = some ⟨g, o, none⟩ ∧ ∀ i t, ts[i]? = some t → ∀ j u, (tokC t)[j]? = some u → w.cell? ⟨g, o + (i * 7 + j), none⟩ = some u)
theorem TokIn.up {w w' : World} {a : Option Addr} {len cap : Nat} {ts : List Tok} (h : TokIn w a len cap ts) (hb : Below w.heap.size w w') : TokIn w' a len cap ts := by
  obtain ⟨h1, h2, h3, h4⟩ := h
  refine ⟨h1, h2, h3, ?_⟩
  rcases h4 with h | ⟨g, o, h, h5⟩
  · exact .inl h
  · exact .inr ⟨g, o, h, fun i t ht j u hu => (hb.cell (World.block_lt_of_cell? w _ (h5 i t ht j u hu))).trans (h5 i t ht j u hu)⟩
/-- The head's cells. -/
structure Head (w : World) (g o : Nat) (t : Tok) : Prop where
  c0 : w.cell? ⟨g, o, none⟩ = some (.pointer none)
  c1 : w.cell? ⟨g, o + 1, none⟩ = some (.string (S t.text))
  c2 : w.cell? ⟨g, o + 2, none⟩ = some (.int .i32 t.loc)
  c3 : w.cell? ⟨g, o + 3, none⟩ = some (.int .u32 0)
  c4 : w.cell? ⟨g, o + 4, none⟩ = some (.int .u16 0)
  c5 : w.cell? ⟨g, o + 5, none⟩ = some (.int .u8 t.kind)
  c6 : w.cell? ⟨g, o + 6, none⟩ = some (.int .u8 t.ws)
theorem Head.up {w w' : World} {g o : Nat} {t : Tok} {B : Nat} (h : Head w g o t) (hb : Below B w w') (hg : g < B) : Head w' g o t :=
  ⟨(hb.cell hg).trans h.c0, (hb.cell hg).trans h.c1, (hb.cell hg).trans h.c2, (hb.cell hg).trans h.c3, (hb.cell hg).trans h.c4, (hb.cell hg).trans h.c5, (hb.cell hg).trans h.c6⟩
theorem TokIn.head {w : World} {a : Option Addr} {len cap : Nat} {ts : List Tok} {i : Nat} {t : Tok} (h : TokIn w a len cap ts) (ht : ts[i]? = some t) : ∃ g o, a = some ⟨g, o, none⟩ ∧ Head w g (o + i * 7) t ∧ g < w.heap.size := by
  obtain ⟨h1, h2, h3, h4⟩ := h
  rcases h4 with rfl | ⟨g, o, rfl, h5⟩
  · simp at ht
  · have k := fun j u hu => h5 i t ht j u hu
    have key : ∀ j u, (tokC t)[j]? = some u → w.cell? ⟨g, o + i * 7 + j, none⟩ = some u := fun j u hu => by
      rw [Nat.add_assoc]; exact k j u hu
    have c0 := key 0 _ rfl
    rw [Nat.add_zero] at c0
    exact ⟨g, o, rfl, ⟨c0, key 1 _ rfl, key 2 _ rfl, key 3 _ rfl, key 4 _ rfl, key 5 _ rfl, key 6 _ rfl⟩, World.block_lt_of_cell? w _ c0⟩
/-- All but the first. -/
theorem TokIn.tail {w : World} {g o : Nat} {len cap : Nat} {t : Tok} {ts : List Tok} (h : TokIn w (some ⟨g, o, none⟩) len cap (t :: ts)) (a : Option Addr) (ha : ¬ cap = 1 → a = some ⟨g, o + 7, none⟩) : TokIn w a (len - 1) (cap - 1) ts := by
  obtain ⟨h1, h2, h3, h4⟩ := h
  rw [List.length_cons] at h1
  refine ⟨by omega, by omega, by omega, ?_⟩
  rcases h4 with h | ⟨g', o', e, h5⟩
  · cases h
  · cases e
    by_cases hc : cap = 1
    · exact .inl (List.eq_nil_of_length_eq_zero (by omega))
    · refine .inr ⟨g, o + 7, ha hc, fun i u hu j x hx => ?_⟩
      have := h5 (i + 1) u (by rw [List.getElem?_cons_succ]; exact hu) j x hx
      rw [show o + ((i + 1) * 7 + j) = o + 7 + (i * 7 + j) by omega] at this
      exact this
/-- What a row of tokens that was made reads as. -/
theorem own_tok {w : World} {B : Nat} {v : Value} {n : Nat} {ts : List Tok} (h : w.ownsRow B 48 7 v n (flat ts)) (hl : ts.length = n) : ∃ A cap, v = .slice A n cap ∧ TokIn w A n cap ts := by
  obtain ⟨h1, ⟨rfl, rfl⟩ | ⟨g, cap, cur, rfl, _, hg, hn, hm, hs, ht⟩⟩ := h
  · exact ⟨none, 0, rfl, hl, Nat.le_refl _, by unfold maxLen; omega, .inl (List.eq_nil_of_length_eq_zero hl)⟩
  · refine ⟨_, _, rfl, hl, hn, hm, .inr ⟨g, 0, rfl, fun i t hi j u hu => ?_⟩⟩
    have hk := flat_get ts i t j u hi hu
    rw [show 0 + (i * 7 + j) = i * 7 + j by omega, cell_of_row w g _ cur _ (0, 0) hg, ← Array.getElem?_toList]
    rw [← ht, List.getElem?_take] at hk
    split at hk
    · exact hk
    · cases hk
theorem info48 : (Tryd.prog.info? 48).map (fun i => (i.zero, i.size, i.bytes)) = some (some (.agg #[.pointer none, .string ⟨#[]⟩, .int .i32 0, .int .u32 0, .int .u16 0, .int .u8 0, .int .u8 0]), 7, 40) := by kernel_rfl
theorem seven_at (w : World) (t : Tok) (ty : TypeId) : ∀ j u, (flat [t])[j]? = some u → (w.alloc (.cells #[.pointer none, .string (S t.text), .int .i32 t.loc, .int .u32 0, .int .u16 0, .int .u8 t.kind, .int .u8 t.ws] ty)).cell? ((⟨w.heap.size, 0, none⟩ : Addr).add j) = some u := by
  intro j u hu
  rw [flat_one] at hu
  have e : (⟨w.heap.size, 0, none⟩ : Addr).add j = ⟨w.heap.size, j, none⟩ := by
    unfold Addr.add
    split
    · next h0 => rw [h0]
    · simp
  rw [e]
  unfold tokC at hu
  match j, hu with
  | 0, hu => simp at hu; subst hu; go_simp
  | 1, hu => simp at hu; subst hu; go_simp
  | 2, hu => simp at hu; subst hu; go_simp
  | 3, hu => simp at hu; subst hu; go_simp
  | 4, hu => simp at hu; subst hu; go_simp
  | 5, hu => simp at hu; subst hu; go_simp
  | 6, hu => simp at hu; subst hu; go_simp
  | j + 7, hu => simp at hu

/-- Are texts generic names? -/
def G (l : Bs) : Bool := look genD l
def genL : List (Lit × DataW Unit) := match genD with | .map l => l | _ => []
theorem genD_eq : genD = .map genL := rfl
theorem gen_keys : genL.all (fun p => match p.1 with | .string s => lowL s == s | _ => false) = true := by kernel_rfl
theorem gen_same (l : Bs) (h : G l = true) : lowL l = l := by
  unfold G look at h
  rw [genD_eq] at h
  unfold DataW.atKey at h
  simp only at h
  cases hf : genL.find? (fun p => p.1.sameKey (.string l)) with
  | none => rw [hf] at h; cases h
  | some p =>
    have h1 := List.find?_some hf
    have h2 := List.all_eq_true.1 gen_keys p (List.mem_of_find?_eq_some hf)
    obtain ⟨k, d⟩ := p
    cases k with
    | string s =>
      have hs : s = l := by simpa [Lit.sameKey] using h1
      subst hs
      simpa using h2
    | _ => simp at h2
theorem gen_low (l : Bs) (h : G l = true) : V l = false := by
  unfold V
  rw [gen_same l h]
  unfold G at h
  rw [h]
  rfl
theorem own_up {w w' : World} {B : Nat} {e : TypeId} {s : Nat} {v : Value} {n : Nat} {xs : List Value} (h : w.ownsRow B e s v n xs) (hb : Below w.heap.size w w') : w'.ownsRow B e s v n xs := by
  obtain ⟨h1, h2⟩ := h
  refine ⟨h1, ?_⟩
  rcases h2 with h | ⟨g, cap, cur, h3, h4, h5, h6⟩
  · exact .inl h
  · exact .inr ⟨g, cap, cur, h3, h4, (hb.block g (Array.getElem?_eq_some_iff.1 h5).1).trans h5, h6⟩
/-! ### a run of appends: what it keeps -/
/-- The first cells of the row that v stands for are xs. -/
def KX (v : Value) (xs : List Value) (w : World) : Prop := ∀ g, v.ownBlock = some g → ∀ j u, xs[j]? = some u → w.cell? ((⟨g, 0, none⟩ : Addr).add j) = some u
/-- Since w, where v stood for xs: no block has turned but v's, v's first cells are xs as before, and the row that s1 stands for is v's or is new. -/
structure Run (w : World) (v : Value) (xs : List Value) (s1 : Value) (wx : World) : Prop where
  fr : ∀ k, k < w.heap.size → v.ownBlock ≠ some k → wx.heap[k]? = w.heap[k]?
  sz : w.heap.size ≤ wx.heap.size
  at_ : ∀ k, s1.ownBlock = some k → v.ownBlock = some k ∨ w.heap.size ≤ k
  vlt : ∀ k, v.ownBlock = some k → k < w.heap.size
  kx : KX v xs wx
theorem addB (g j : Nat) : ((⟨g, 0, none⟩ : Addr).add j).block = g := by
  unfold Addr.add
  split <;> rfl
theorem Run.refl {w : World} {B n s : Nat} {e : TypeId} {v : Value} {xs : List Value} (h : w.ownsRow B e s v n xs) : Run w v xs v w :=
  ⟨fun _ _ _ => rfl, Nat.le_refl _, fun _ hk => .inl hk, fun k hk => (h.lt k hk).2, fun _ hg j u hu => h.cells hg j u hu⟩
theorem Run.below {w wx wy : World} {v s1 : Value} {xs : List Value} (h : Run w v xs s1 wx) (hb : Below wx.heap.size wx wy) : Run w v xs s1 wy :=
  ⟨fun k hk hv => (hb.block k (Nat.lt_of_lt_of_le hk h.sz)).trans (h.fr k hk hv), Nat.le_trans h.sz hb.size, h.at_, h.vlt,
    fun g hg j u hu => (hb.cell (World.block_lt_of_cell? wx _ (h.kx g hg j u hu))).trans (h.kx g hg j u hu)⟩
theorem Run.alloc {w wx : World} {v s1 : Value} {xs : List Value} (h : Run w v xs s1 wx) (o : Obj) : Run w v xs s1 (wx.alloc o) := h.below ((Below.refl _ _).alloc (Nat.le_refl _) o)
theorem Run.drew {w wx : World} {v s1 : Value} {xs : List Value} (h : Run w v xs s1 wx) : Run w v xs s1 wx.drew := h.below (Below.refl _ _).drew
theorem Run.set {w wx : World} {v s1 : Value} {xs : List Value} (h : Run w v xs s1 wx) {p : Addr} (hp : w.heap.size ≤ p.block) (u : Value) : Run w v xs s1 (wx.setCell p u) := by
  have hh : ∀ k, k < w.heap.size → (wx.setCell p u).heap[k]? = wx.heap[k]? := fun k hk => Below.heap_setCell wx p u k (by omega)
  refine ⟨fun k hk hv => (hh k hk).trans (h.fr k hk hv), by simpa [World.setCell] using h.sz, h.at_, h.vlt, fun g hg j x hx => ?_⟩
  refine (World.cell?_of_block ?_).trans (h.kx g hg j x hx)
  rw [addB]
  exact hh g (h.vlt g hg)
theorem Run.app {w wx wy : World} {v s1 : Value} {xs ys : List Value} {B n' n1 s g1 cap H : Nat} {e : TypeId} (h : Run w v xs s1 wx) (hown : wy.ownsRow B e s (.slice (some ⟨g1, 0, none⟩) n1 cap) n' (xs ++ ys)) (hg : wx.grownBy wy s1.ownBlock)
    (hat : s1.ownBlock = some g1 ∨ g1 = H) (hH : wx.heap.size = H) (hk : s1.ownBlock = some g1 ∨ ∀ k, s1.ownBlock = some k → wy.heap[k]? = wx.heap[k]?) : Run w v xs (.slice (some ⟨g1, 0, none⟩) n1 cap) wy := by
  refine ⟨fun k hlt hv => ?_, Nat.le_trans h.sz hg.size, fun k hk1 => ?_, h.vlt, fun g hgv j u hu => ?_⟩
  · refine (hg.block k (Nat.lt_of_lt_of_le hlt h.sz) (fun e => ?_)).trans (h.fr k hlt hv)
    rcases h.at_ k e.symm with h1 | h1
    · exact hv h1
    · omega
  · obtain rfl : g1 = k := Option.some.inj hk1
    rcases hat with h1 | h1
    · exact h.at_ _ h1
    · have := h.sz
      exact .inr (by omega)
  · have hc := h.kx g hgv j u hu
    have hlt := World.block_lt_of_cell? wx _ hc
    rw [addB] at hlt
    by_cases hs : s1.ownBlock = some g
    · rcases hk with e1 | k1
      · obtain rfl : g1 = g := Option.some.inj (e1.symm.trans hs)
        have hj := (List.getElem?_eq_some_iff.1 hu).1
        exact hown.cells (g := g1) rfl j u (by rw [List.getElem?_append_left hj]; exact hu)
      · exact (World.cell?_of_block (by rw [addB]; exact k1 g hs)).trans hc
    · exact (World.cell?_of_block (by rw [addB]; exact hg.block g hlt (fun e => hs e.symm))).trans hc

/-- What an append of tokens leaves. -/
def Kept (B : Nat) (w : World) (v : Value) (n m : Nat) (xs news : List Value) (H g cap : Nat) (w' : World) : Prop :=
  w'.ownsRow B 48 7 (.slice (some ⟨g, 0, none⟩) (n + m) cap) (n + m) (xs ++ news) ∧ w.grownBy w' v.ownBlock ∧ (v.ownBlock = some g ∨ g = H) ∧ g < w'.heap.size ∧ (v.ownBlock = some g ∨ ∀ k, v.ownBlock = some k → w'.heap[k]? = w.heap[k]?)
/-- Tokens appended: where the row has moved, the elder one stays. -/
theorem run_keep (w : World) (ty : TypeId) (B : Nat) (v : Value) (n : Nat) (xs : List Value) (hown : w.ownsRow B 48 7 v n xs) (ad : Addr) (m c : Nat) (news : List Value) (hl : news.length = m * 7)
    (hnews : ∀ j u, news[j]? = some u → w.cell? (ad.add j) = some u) (h1 : ∀ u ∈ news, u.oneCell' = true) (hm : 0 < m) (hn : n + m ≤ 33554432) (hB : B ≤ w.heap.size) (H : Nat) (hH : w.heap.size = H) :
    ∃ g cap w', (Builtin.append_ #[28, 28] ty #[v, .slice (some ad) m c]).run Tryd.prog w = .ok (.slice (some ⟨g, 0, none⟩) (n + m) cap) w' ∧ Kept B w v n m xs news H g cap w' := by
  obtain ⟨i0, hi, hz0, hz1, hz2⟩ := info_parts info48
  have hby : (n + m) * 40 ≤ 140737488355328 := by omega
  have hmx : n + m ≤ maxLen := by unfold maxLen; omega
  obtain ⟨g, cap, w', hr, h2, h3, h4, h5⟩ := run_append_lies (P := Tryd.prog) w 28 ty B 48 i0 _ 7 40 Tryd.underlying28 hi hz0 hz1 hz2 rfl (by omega) v n xs hown ad m c news hl hnews h1 hm hmx hby hB H hH
  refine ⟨g, cap, w', hr, h2, h3, h4, h5, ?_⟩
  rcases hown.2 with ⟨rfl, _⟩ | ⟨g0, cap0, cur, rfl, _, hg0, _, _, hcs, _⟩
  · exact .inr (fun k hk => by simp [Value.ownBlock] at hk)
  · have hlt := (Array.getElem?_eq_some_iff.1 hg0).1
    by_cases hroom : n + m ≤ cap0
    · have hr2 := run_append_room (P := Tryd.prog) w 28 ty 48 i0 Tryd.underlying28 hi g0 n cap0 cur hg0 ad m c news (by rw [hz1]; exact hl) hnews h1 hroom (by rw [hz1, hl, hcs]; omega)
      rw [hr] at hr2
      simp at hr2
      exact .inl (by rw [hr2.1.1]; rfl)
    · have hr2 := run_append_grow (P := Tryd.prog) w 28 ty 48 i0 _ Tryd.underlying28 hi hz0 ⟨g0, 0, none⟩ n cap0 xs (by rw [hz1]; exact hown.1) (hown.cells (g := g0) rfl) ad m c news (by rw [hz1]; exact hl) hnews (by omega) (by omega) (growslice_fits (by omega) (by rw [hz2]; exact hby))
      rw [hr] at hr2
      simp at hr2
      refine .inr (fun k hk => ?_)
      obtain rfl : g0 = k := Option.some.inj hk
      rw [hr2.2]
      exact (World.grownBy_alloc w.drew _ none).block g0 hlt (by simp)
theorem wp_keep {o : Oper} {a : Act} {w : World} {K : Act → World → Prop} {Q : Exit → Act → World → Prop} (s x : Operand) (ho : o.op = .call { callee := .builtin .append, args := #[s, x], argTypes := #[28, 28] })
    (B : Nat) (v : Value) (n : Nat) (xs : List Value) (hs : a.eval s = v) (hown : w.ownsRow B 48 7 v n xs) (ad : Addr) (m c : Nat) (news : List Value) (hx : a.eval x = .slice (some ad) m c) (hl : news.length = m * 7)
    (hnews : ∀ j u, news[j]? = some u → w.cell? (ad.add j) = some u) (h1 : ∀ u ∈ news, u.oneCell' = true) (hm : 0 < m) (hn : n + m ≤ 33554432) (hB : B ≤ w.heap.size) (H : Nat) (hH : w.heap.size = H)
    (h : ∀ g cap w', Kept B w v n m xs news H g cap w' → K (a.put o.dst (.slice (some ⟨g, 0, none⟩) (n + m) cap)) w') : o.wp Tryd.prog a w K Q := by
  obtain ⟨g, cap, w', hr, hk⟩ := run_keep w o.type B v n xs hown ad m c news hl hnews h1 hm hn hB H hH
  unfold Oper.wp execOp
  simp only [ho, resolve, invoke, builtin, Sem.run_bind, Sem.run_pure, Result.andThen_ok, List.map_toArray, List.map_cons, List.map_nil, hs, hx, hr]
  exact h g cap w' hk
theorem wpList_keep {ops : Array Oper} {rest : List Oper} {o : Oper} {a : Act} {w : World} {Q : Exit → Act → World → Prop} (hgd : o.guard = none) (s x : Operand) (ho : o.op = .call { callee := .builtin .append, args := #[s, x], argTypes := #[28, 28] })
    (B : Nat) (v : Value) (n : Nat) (xs : List Value) (hs : a.eval s = v) (hown : w.ownsRow B 48 7 v n xs) (ad : Addr) (m c : Nat) (news : List Value) (hx : a.eval x = .slice (some ad) m c) (hl : news.length = m * 7)
    (hnews : ∀ j u, news[j]? = some u → w.cell? (ad.add j) = some u) (h1 : ∀ u ∈ news, u.oneCell' = true) (hm : 0 < m) (hn : n + m ≤ 33554432) (hB : B ≤ w.heap.size) (H : Nat) (hH : w.heap.size = H)
    (h : ∀ g cap w', Kept B w v n m xs news H g cap w' → wpList Tryd.prog ops Q rest (a.put o.dst (.slice (some ⟨g, 0, none⟩) (n + m) cap)) w') : wpList Tryd.prog ops Q (o :: rest) a w :=
  wpList_plain hgd fun _ hK => wp_keep s x ho B v n xs hs hown ad m c news hx hl hnews h1 hm hn hB H hH fun g cap w' hk => hK _ _ (h g cap w' hk)
theorem step_keep {ops : Array Oper} {o : Oper} {a : Act} {w : World} {K : Act → World → Prop} {Q : Exit → Act → World → Prop} {E : Prop} (hgd : o.guard = none) (s x : Operand) (ho : o.op = .call { callee := .builtin .append, args := #[s, x], argTypes := #[28, 28] })
    (B : Nat) (v : Value) (n : Nat) (xs : List Value) (hs : a.eval s = v) (hown : w.ownsRow B 48 7 v n xs) (ad : Addr) (m c : Nat) (news : List Value) (hx : a.eval x = .slice (some ad) m c) (hl : news.length = m * 7)
    (hnews : ∀ j u, news[j]? = some u → w.cell? (ad.add j) = some u) (h1 : ∀ u ∈ news, u.oneCell' = true) (hm : 0 < m) (hn : n + m ≤ 33554432) (hB : B ≤ w.heap.size) (H : Nat) (hH : w.heap.size = H)
    (h : ∀ g cap w', Kept B w v n m xs news H g cap w' → K (a.put o.dst (.slice (some ⟨g, 0, none⟩) (n + m) cap)) w') : if Region.wanted o (yielded ops a.tmps) = true then Oper.wp Tryd.prog o a w K Q else E := by
  rw [if_pos (show Region.wanted o (yielded ops a.tmps) = true by simp [Region.wanted, hgd])]
  exact wp_keep s x ho B v n xs hs hown ad m c news hx hl hnews h1 hm hn hB H hH h

/-- What stands when a step begins: the tables at the base world, nothing below turned since; the parser, in a block that is not the result's. -/
structure Ctx (w0 : World) (pb : Nat) (mw : Bool) (v : Value) (w : World) : Prop where
  tabs : Tabs w0
  par : w.cell? ⟨pb, 50, none⟩ = some (.bool mw)
  pne : v.ownBlock ≠ some pb
  below : Below w0.heap.size w0 w
def StepEnd (w0 w : World) (v : Value) (n : Nat) (xs : List Value) (r : Option (List Tok × List Tok)) (e : Ending) (w' : World) : Prop :=
  Below w0.heap.size w0 w' ∧ (∃ s1, Run w v xs s1 w') ∧ match r with
  | none => e = .returned (.tuple #[.slice none 0 0, .slice none 0 0, .bool false])
  | some (o, rest) => ∃ v' a cap, e = .returned (.tuple #[v', .slice a rest.length cap, .bool true]) ∧ TokIn w0 a rest.length cap rest ∧ w'.ownsRow w0.heap.size 48 7 v' (n + o.length) (xs ++ flat o) ∧ Run w v xs v' w'
theorem own_at {w : World} {B : Nat} {e : TypeId} {g n cap : Nat} {L : List Bs} (h : w.ownsRow B e 1 (.slice (some ⟨g, 0, none⟩) n cap) n (sv L)) {j : Nat} {x : Bs} (hj : L[j]? = some x) : w.cell? ⟨g, j, none⟩ = some (.string (S x)) := by
  have := h.cells (g := g) rfl j (.string (S x)) (by unfold sv; rw [List.getElem?_map, hj]; rfl)
  have e : (⟨g, 0, none⟩ : Addr).add j = ⟨g, j, none⟩ := by
    unfold Addr.add
    split
    · next h0 => rw [h0]
    · simp
  rwa [e] at this
end Go.Proofs.YtjinajfejbpicaaDoor
