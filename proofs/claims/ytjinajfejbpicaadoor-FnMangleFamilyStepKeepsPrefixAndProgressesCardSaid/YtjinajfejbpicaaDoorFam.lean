/-
  Plain law of a font family's tokens: what stepping family by family makes, against the groups between the commas; no program in sight (conditions: those that each lemma names).
-/
import Derived.Test.YtjinajfejbpicaaDoorStr
namespace Go.Proofs.YtjinajfejbpicaaDoor

abbrev Bs := List UInt8
/-- A token: its kind, its text, its whitespace flags, its place. -/
structure Tok where
  kind : Int
  text : Bs
  ws : Int
  loc : Int

def KI : Int := 29
def KS : Int := 36
def KC : Int := 10

/-- Split at each space. -/
def spSplit : Bs → List Bs
  | [] => [[]]
  | c :: t => if c = 32 then [] :: spSplit t else match spSplit t with
    | e :: r => (c :: e) :: r
    | [] => [[c]]
theorem spSplit_ne : ∀ l : Bs, spSplit l ≠ []
  | [] => by simp [spSplit]
  | c :: t => by
    rw [spSplit]
    split
    · simp
    · split <;> simp
theorem spSplit_none : ∀ l : Bs, 32 ∉ l → spSplit l = [l]
  | [], _ => rfl
  | c :: t, h => by
    have hc : c ≠ 32 := fun e => h (by simp [e])
    rw [spSplit, if_neg hc, spSplit_none t (fun hm => h (List.mem_cons_of_mem _ hm))]
theorem spSplit_at : ∀ (a t : Bs), 32 ∉ a → spSplit (a ++ 32 :: t) = a :: spSplit t
  | [], t, _ => by rw [List.nil_append, spSplit, if_pos rfl]
  | c :: a, t, h => by
    have hc : c ≠ 32 := fun e => h (by simp [e])
    rw [List.cons_append, spSplit, if_neg hc, spSplit_at a t (fun hm => h (List.mem_cons_of_mem _ hm))]

variable (V G : Bs → Bool) (m : Bool)

/-- The identifiers of an unquoted family. -/
def idents (loc : Int) (ps : List Bs) : List Tok := ps.mapIdx fun i p => ⟨KI, p, if i ≠ 0 ∨ m = false then 1 else 0, loc⟩
def expand (t : Tok) : List Tok := if (spSplit t.text).all V then idents m t.loc (spSplit t.text) else [t]

/-- One family, and what is left. -/
def step : List Tok → Option (List Tok × List Tok)
  | [] => none
  | t :: r =>
    if t.kind = KI ∧ G t.text = true then some ([t], r)
    else if t.kind = KS then some (expand V m t, r)
    else if t.kind = KI then
      if ((t :: r).takeWhile fun u => u.kind = KI).all fun u => V u.text then some ((t :: r).takeWhile fun u => u.kind = KI, (t :: r).dropWhile fun u => u.kind = KI) else none
    else none

def mangle : Nat → List Tok → Option (List Tok)
  | 0, _ => none
  | n + 1, l => match step V G m l with
    | none => none
    | some (o, []) => some o
    | some (o, c :: r) => if c.kind = KC then (mangle n r).map fun x => o ++ c :: x else none

/-- One group between commas. -/
def grp (g : List Tok) : Option (List Tok) :=
  match g with
  | [] => none
  | t :: r =>
    if r = [] ∧ t.kind = KI ∧ G t.text = true then some [t]
    else if r = [] ∧ t.kind = KS then some (expand V m t)
    else if (t :: r).all fun u => u.kind = KI && V u.text then some (t :: r)
    else none

theorem grp_cons (t : Tok) (r : List Tok) : grp V G m (t :: r) = if r = [] ∧ t.kind = KI ∧ G t.text = true then some [t]
    else if r = [] ∧ t.kind = KS then some (expand V m t)
    else if (t :: r).all fun u => u.kind = KI && V u.text then some (t :: r)
    else none := rfl
def nc (t : Tok) : Bool := decide (t.kind ≠ KC)
def model : Nat → List Tok → Option (List Tok)
  | 0, _ => none
  | n + 1, l => match grp V G m (l.takeWhile nc) with
    | none => none
    | some o => match l.dropWhile nc with
      | [] => some o
      | c :: r => (model n r).map fun x => o ++ c :: x

def EndOK (t : List Tok) : Prop := t = [] ∨ ∃ c r, t = c :: r ∧ c.kind = KC

theorem tw_idents : ∀ (g t : List Tok), (∀ u ∈ g, u.kind = KI) → EndOK t → (g ++ t).takeWhile (fun u => u.kind = KI) = g ∧ (g ++ t).dropWhile (fun u => u.kind = KI) = t
  | [], t, _, h => by
    rcases h with rfl | ⟨c, r, rfl, hc⟩
    · exact ⟨rfl, rfl⟩
    · have : decide (c.kind = KI) = false := by rw [hc]; decide
      simp [this]
  | u :: g, t, hg, h => by
    obtain ⟨h1, h2⟩ := tw_idents g t (fun x hx => hg x (List.mem_cons_of_mem _ hx)) h
    have : decide (u.kind = KI) = true := by simpa using hg u (by simp)
    rw [List.cons_append, List.takeWhile_cons, List.dropWhile_cons, this, h1, h2]
    exact ⟨rfl, rfl⟩

variable {V G m}
theorem step_grp {g t o : List Tok} (hV : ∀ x, G x = true → V x = false) (ht : EndOK t) (h : grp V G m g = some o) : step V G m (g ++ t) = some (o, t) := by
  cases g with
  | nil => cases h
  | cons a r =>
    rw [grp_cons] at h
    rw [List.cons_append, step]
    split at h
    · next h1 =>
      obtain ⟨rfl, h2, h3⟩ := h1
      rw [if_pos ⟨h2, h3⟩, List.nil_append]
      cases h
      rfl
    · next h1 =>
      split at h
      · next h2 =>
        obtain ⟨rfl, h3⟩ := h2
        have hk : ¬ (a.kind = KI ∧ G a.text = true) := by rw [h3]; exact fun e => absurd e.1 (by decide)
        rw [if_neg hk, if_pos h3, List.nil_append]
        cases h
        rfl
      · split at h
        · next h3 =>
          cases h
          have hall : ∀ u ∈ a :: r, u.kind = KI ∧ V u.text = true := by simpa using h3
          obtain ⟨ha, hva⟩ := hall a (by simp)
          have hng : ¬ (a.kind = KI ∧ G a.text = true) := fun e => by rw [hV _ e.2] at hva; cases hva
          have hns : ¬ a.kind = KS := by rw [ha]; decide
          obtain ⟨h4, h5⟩ := tw_idents (a :: r) t (fun u hu => (hall u hu).1) ht
          rw [List.cons_append] at h4 h5
          rw [if_neg hng, if_neg hns, if_pos ha, h4, h5, if_pos]
          exact List.all_eq_true.2 fun u hu => (hall u hu).2
        · cases h

/-- A group that is refused: the step is refused, or stops ahead of something that is no comma. -/
theorem step_bad {g t : List Tok} (hg : ∀ u ∈ g, u.kind ≠ KC) (ht : EndOK t) (h : grp V G m g = none) : step V G m (g ++ t) = none ∨ ∃ o c r, step V G m (g ++ t) = some (o, c :: r) ∧ c.kind ≠ KC := by
  cases g with
  | nil =>
    refine .inl ?_
    rcases ht with rfl | ⟨c, r, rfl, hc⟩
    · rfl
    · rw [List.nil_append, step, if_neg (by rw [hc]; exact fun e => absurd e.1 (by decide)), if_neg (by rw [hc]; decide), if_neg (by rw [hc]; decide)]
  | cons a r =>
    rw [grp_cons] at h
    rw [List.cons_append, step]
    by_cases h1 : a.kind = KI ∧ G a.text = true
    · rw [if_pos h1]
      cases r with
      | nil => rw [if_pos ⟨rfl, h1⟩] at h; cases h
      | cons b r => exact .inr ⟨_, b, r ++ t, rfl, hg b (by simp)⟩
    · rw [if_neg h1]
      by_cases h2 : a.kind = KS
      · rw [if_pos h2]
        cases r with
        | nil => rw [if_neg (fun e => h1 e.2), if_pos ⟨rfl, h2⟩] at h; cases h
        | cons b r => exact .inr ⟨_, b, r ++ t, rfl, hg b (by simp)⟩
      · rw [if_neg h2]
        by_cases h3 : a.kind = KI
        · rw [if_pos h3]
          split
          · next hall =>
            rw [if_neg (fun e => h1 e.2), if_neg (fun e => h2 e.2)] at h
            -- the identifiers do not reach the group's end
            by_cases h4 : ∀ u ∈ a :: r, u.kind = KI
            · obtain ⟨h5, _⟩ := tw_idents (a :: r) t h4 ht
              rw [List.cons_append] at h5
              rw [h5] at hall
              rw [if_pos (List.all_eq_true.2 fun u hu => by
                have := List.all_eq_true.1 hall u hu
                simp [h4 u hu, this])] at h
              cases h
            · refine .inr ?_
              have key : ∀ (g : List Tok), (∀ u ∈ g, u.kind ≠ KC) → ¬ (∀ u ∈ g, u.kind = KI) → ∃ c s, (g ++ t).dropWhile (fun u => decide (u.kind = KI)) = c :: s ∧ c.kind ≠ KC := by
                intro g
                induction g with
                | nil => intro _ hx; exact absurd (fun u hu => by cases hu) hx
                | cons x g ih =>
                  intro hc hx
                  by_cases hk : x.kind = KI
                  · obtain ⟨c, s, e1, e2⟩ := ih (fun u hu => hc u (List.mem_cons_of_mem _ hu)) (fun hall => hx (fun u hu => by
                      rcases List.mem_cons.1 hu with rfl | hu
                      · exact hk
                      · exact hall u hu))
                    refine ⟨c, s, ?_, e2⟩
                    rw [List.cons_append, List.dropWhile_cons, decide_eq_true hk, if_pos rfl, e1]
                  · refine ⟨x, g ++ t, ?_, hc x (by simp)⟩
                    rw [List.cons_append, List.dropWhile_cons, decide_eq_false hk]
                    rfl
              obtain ⟨c, s, e1, e2⟩ := key (a :: r) hg h4
              rw [List.cons_append] at e1
              exact ⟨_, c, s, by rw [e1], e2⟩
          · exact .inl rfl
        · rw [if_neg h3]
          exact .inl rfl

theorem cut_eq (l : List Tok) : l = l.takeWhile nc ++ l.dropWhile nc := (List.takeWhile_append_dropWhile).symm
theorem cut_left (l : List Tok) : ∀ u ∈ l.takeWhile nc, u.kind ≠ KC := fun u hu => by
  have := List.all_eq_true.1 List.all_takeWhile u hu
  simpa [nc] using this
theorem cut_right : ∀ l : List Tok, EndOK (l.dropWhile nc)
  | [] => .inl rfl
  | c :: r => by
    rw [List.dropWhile_cons]
    by_cases h : c.kind = KC
    · have : nc c = false := by simp [nc, h]
      rw [this]
      exact .inr ⟨c, r, rfl, h⟩
    · have : nc c = true := by simp [nc, h]
      rw [this]
      exact cut_right r

/-- Stepping family by family is judging the groups between the commas. -/
theorem mangle_model (hV : ∀ x, G x = true → V x = false) : ∀ (n : Nat) (l : List Tok), mangle V G m n l = model V G m n l
  | 0, _ => rfl
  | n + 1, l => by
    unfold mangle model
    have e := cut_eq l
    have hr := cut_right l
    cases hg : grp V G m (l.takeWhile nc) with
    | some o =>
      have hs := step_grp hV hr hg
      rw [← e] at hs
      rw [hs]
      cases hd : l.dropWhile nc with
      | nil => rfl
      | cons c r =>
        have hc : c.kind = KC := by
          rw [hd] at hr
          rcases hr with h | ⟨c', r', h, hc⟩
          · cases h
          · cases h; exact hc
        show (if c.kind = KC then _ else _) = _
        rw [if_pos hc, mangle_model hV n r]
    | none =>
      have hs := step_bad (cut_left l) hr hg
      rw [← e] at hs
      rcases hs with hs | ⟨o, c, r, hs, hc⟩
      · rw [hs]
      · rw [hs]
        show (if c.kind = KC then _ else _) = _
        rw [if_neg hc]

/-! ### Once more -/
theorem expand_idents {t : Tok} (h : (spSplit t.text).all V = true) : ∀ u ∈ expand V m t, u.kind = KI ∧ V u.text = true := by
  intro u hu
  unfold expand at hu
  rw [if_pos h] at hu
  unfold idents at hu
  obtain ⟨i, hi, rfl⟩ := List.mem_mapIdx.1 hu
  exact ⟨rfl, List.all_eq_true.1 h _ (List.getElem_mem _)⟩
theorem expand_ne (t : Tok) : expand V m t ≠ [] := by
  unfold expand
  split
  · unfold idents
    intro h
    have := congrArg List.length h
    rw [List.length_mapIdx] at this
    exact spSplit_ne t.text (List.eq_nil_of_length_eq_zero this)
  · simp
theorem grp_all {g : List Tok} (hV : ∀ x, G x = true → V x = false) (h0 : g ≠ []) (h : ∀ u ∈ g, u.kind = KI ∧ V u.text = true) : grp V G m g = some g := by
  cases g with
  | nil => exact absurd rfl h0
  | cons a r =>
    obtain ⟨ha, hv⟩ := h a (by simp)
    rw [grp_cons, if_neg, if_neg, if_pos]
    · exact List.all_eq_true.2 fun u hu => by simp [h u hu]
    · rintro ⟨_, hs⟩
      rw [ha] at hs
      exact absurd hs (by decide)
    · rintro ⟨_, _, hg⟩
      rw [hV _ hg] at hv
      cases hv
theorem grp_again {g o : List Tok} (hV : ∀ x, G x = true → V x = false) (h : grp V G m g = some o) : o ≠ [] ∧ (∀ u ∈ o, u.kind ≠ KC) ∧ grp V G m o = some o := by
  cases g with
  | nil => cases h
  | cons a r =>
    have h0 := h
    rw [grp_cons] at h
    split at h
    · next h1 =>
      obtain ⟨rfl, h2, h3⟩ := h1
      cases h
      refine ⟨by simp, ?_, h0⟩
      intro u hu
      have : u = a := by simpa using hu
      subst this
      rw [h2]
      decide
    · split at h
      · next h2 =>
        obtain ⟨rfl, h3⟩ := h2
        cases h
        refine ⟨expand_ne a, ?_⟩
        cases hall : (spSplit a.text).all V with
        | true =>
          have := expand_idents (m := m) hall
          exact ⟨fun u hu => by rw [(this u hu).1]; decide, grp_all hV (expand_ne a) this⟩
        | false =>
          have e : expand V m a = [a] := by unfold expand; rw [hall]; rfl
          rw [e] at h0 ⊢
          refine ⟨?_, h0⟩
          intro u hu
          have : u = a := by simpa using hu
          subst this
          rw [h3]
          decide
      · split at h
        · next h3 =>
          cases h
          have hall : ∀ u ∈ a :: r, u.kind = KI ∧ V u.text = true := by simpa using h3
          exact ⟨by simp, fun u hu => by rw [(hall u hu).1]; decide, grp_all hV (by simp) hall⟩
        · cases h

theorem tw_nc : ∀ (o t : List Tok), (∀ u ∈ o, u.kind ≠ KC) → EndOK t → (o ++ t).takeWhile nc = o ∧ (o ++ t).dropWhile nc = t
  | [], t, _, h => by
    rcases h with rfl | ⟨c, r, rfl, hc⟩
    · exact ⟨rfl, rfl⟩
    · have : nc c = false := by simp [nc, hc]
      simp [this]
  | u :: g, t, hg, h => by
    obtain ⟨h1, h2⟩ := tw_nc g t (fun x hx => hg x (List.mem_cons_of_mem _ hx)) h
    have : nc u = true := by simpa [nc] using hg u (by simp)
    rw [List.cons_append, List.takeWhile_cons, List.dropWhile_cons, this, h1, h2]
    exact ⟨rfl, rfl⟩

theorem model_again (hV : ∀ x, G x = true → V x = false) : ∀ (n : Nat) (l o : List Tok), model V G m n l = some o → o ≠ [] ∧ ∀ k, n ≤ k → model V G m k o = some o
  | 0, _, _, h => by cases h
  | n + 1, l, o, h => by
    unfold model at h
    cases hg : grp V G m (l.takeWhile nc) with
    | none => rw [hg] at h; cases h
    | some p =>
      rw [hg] at h
      obtain ⟨h0, h1, h2⟩ := grp_again hV hg
      cases hd : l.dropWhile nc with
      | nil =>
        rw [hd] at h
        obtain rfl : o = p := (Option.some.inj h).symm
        refine ⟨h0, fun k hk => ?_⟩
        obtain ⟨k, rfl⟩ : ∃ j, k = j + 1 := ⟨k - 1, by omega⟩
        obtain ⟨h3, h4⟩ := tw_nc o [] h1 (.inl rfl)
        rw [List.append_nil] at h3 h4
        unfold model
        rw [h3, h4, h2]
      | cons c r =>
        rw [hd] at h
        have hc : c.kind = KC := by
          have hr := cut_right l
          rw [hd] at hr
          rcases hr with h | ⟨c', r', h, hc⟩
          · cases h
          · cases h; exact hc
        cases hm : model V G m n r with
        | none => simp [hm] at h
        | some q =>
          have ho : p ++ c :: q = o := by simpa [hm] using h
          subst ho
          refine ⟨by simp, fun k hk => ?_⟩
          obtain ⟨k, rfl⟩ : ∃ j, k = j + 1 := ⟨k - 1, by omega⟩
          obtain ⟨_, ih⟩ := model_again hV n r q hm
          obtain ⟨h3, h4⟩ := tw_nc p (c :: q) h1 (.inr ⟨c, q, rfl, hc⟩)
          unfold model
          rw [h3, h4, h2]
          show (model V G m k q).map _ = _
          rw [ih k (by omega)]
          rfl
end Go.Proofs.YtjinajfejbpicaaDoor
