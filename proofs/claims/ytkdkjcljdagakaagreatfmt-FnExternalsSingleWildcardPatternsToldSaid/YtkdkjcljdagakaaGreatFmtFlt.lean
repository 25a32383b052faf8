/-
  Plain facts on a map that is filtered key by key: its good entries are kept; no program in sight (conditions: those that each lemma names).
-/
import Derived.Test.YtkdkjcljdagakaaGreatFmtAlp
import Derived.Maps.Ext
import Derived.Maps.Views
namespace Go.Proofs.YtkdkjcljdagakaaGreatFmt
open Go.RowKit Go.Maps Go.Lib

/-- A valid name, as path.Clean sees it. -/
def okB (l : Bs) : Bool := !(Lib.hasPrefix l [46]) && !(Lib.hasPrefix l [47]) && (Pa.clean (r92 l) == l)
def goodV (d : DataW Unit) : Bool := match d with | .lit (.string (_ :: _)) => true | _ => false
def good (kl : Lit) (d : DataW Unit) : Bool := goodV d && (match kl with | .string k => okB k | _ => false)

theorem repl_r92 (l : Bs) (n : Nat) (h : l.length ≤ n) : repl [92] [47] n l = r92 l := by
  rw [repl_one 92 [47] n l h]
  clear h
  induction l with
  | nil => rfl
  | cons b t ih =>
    rw [List.flatMap_cons, ih]
    unfold r92
    rw [List.map_cons]
    by_cases hb : b = 92
    · rw [if_pos hb, if_pos hb]; rfl
    · rw [if_neg hb, if_neg hb]; rfl
theorem pre1 (l : Bs) (c : UInt8) : Lib.hasPrefix l [c] = (l.head? == some c) := by
  cases l with
  | nil => rfl
  | cons b t =>
    unfold Lib.hasPrefix
    simp [List.isPrefixOf]
    exact Bool.eq_iff_iff.2 ⟨fun h => by simpa using (by simpa using h : c = b).symm, fun h => by simpa using (by simpa using h : b = c).symm⟩
theorem okB_iff (l : Bs) : okB l = true ↔ l.head? ≠ some 46 ∧ l.head? ≠ some 47 ∧ ∀ x ∈ Pa.els l, Seg x := by
  unfold okB
  rw [pre1, pre1]
  simp only [Bool.and_eq_true, Bool.not_eq_true', beq_eq_false_iff_ne, ne_eq, beq_iff_eq]
  constructor
  · rintro ⟨⟨h1, h2⟩, h3⟩
    exact ⟨h1, h2, (clean_ok l h1 h2).1 h3⟩
  · rintro ⟨h1, h2, h3⟩
    exact ⟨⟨h1, h2⟩, (clean_ok l h1 h2).2 h3⟩

/-- Dout holds just the good entries of D0 that are no longer to come. -/
def Filt (Dout D0 : DataW Unit) (left : Lit → Bool) : Prop := (∀ k, has Dout k = (has D0 k && !left k && good k (D0.atKey k .nil))) ∧ ∀ k z, has Dout k = true → Dout.atKey k z = D0.atKey k z
/-- Whether every entry that is no longer to come is good. -/
def AllGood (D0 : DataW Unit) (left : Lit → Bool) : Prop := ∀ k, has D0 k = true → left k = false → good k (D0.atKey k .nil) = true
theorem filt_start (D0 : DataW Unit) : Filt (.map []) D0 (has D0) := ⟨fun k => by rw [has_eq]; cases has D0 k <;> rfl, fun k z h => by rw [has_eq] at h; cases h⟩
theorem allGood_start (D0 : DataW Unit) : AllGood D0 (has D0) := fun k h1 h2 => by rw [h1] at h2; cases h2

theorem filt_good {Dout D0 : DataW Unit} {left : Lit → Bool} {kl : Lit} {d : DataW Unit} (hA : Filt Dout D0 left) (hm : IsMap Dout) (hk : WideAt.IsKeyLit kl) (hat : ∀ zd, D0.atKey kl zd = d) (hg : good kl d = true) : Filt (Dout.put kl d) D0 (fun z => left z && !z.sameKey kl) := by
  refine ⟨fun k => ?_, fun k z h => ?_⟩
  · by_cases e : k = kl
    · subst e
      show has (Dout.put k d) k = (has D0 k && !(left k && !k.sameKey k) && good k (D0.atKey k .nil))
      rw [has_put_same hm hk, has_true_of_atKey hat, WideAt.sameKey_self hk, hat, hg]
      simp
    · show has (Dout.put kl d) k = (has D0 k && !(left k && !k.sameKey kl) && good k (D0.atKey k .nil))
      rw [has_put_other e, hA.1 k, sameKey_ne e]
      simp
  · by_cases e : k = kl
    · subst e
      rw [atKey_put_same hm hk, hat]
    · rw [has_put_other e] at h
      rw [atKey_put_other e, hA.2 k z h]
theorem filt_bad {Dout D0 : DataW Unit} {left : Lit → Bool} {kl : Lit} {d : DataW Unit} (hA : Filt Dout D0 left) (hk : WideAt.IsKeyLit kl) (hl : left kl = true) (hat : ∀ zd, D0.atKey kl zd = d) (hg : good kl d = false) : Filt Dout D0 (fun z => left z && !z.sameKey kl) := by
  refine ⟨fun k => ?_, fun k z h => hA.2 k z h⟩
  by_cases e : k = kl
  · subst e
    show has Dout k = (has D0 k && !(left k && !k.sameKey k) && good k (D0.atKey k .nil))
    rw [hA.1 k, hat, hg, hl]
    simp
  · show has Dout k = (has D0 k && !(left k && !k.sameKey kl) && good k (D0.atKey k .nil))
    rw [hA.1 k, sameKey_ne e]
    simp
theorem allGood_good {D0 : DataW Unit} {left : Lit → Bool} {kl : Lit} {d : DataW Unit} (hk : WideAt.IsKeyLit kl) (hat : ∀ zd, D0.atKey kl zd = d) (hg : good kl d = true) : AllGood D0 (fun z => left z && !z.sameKey kl) ↔ AllGood D0 left := by
  constructor
  · intro h k h1 h2
    exact h k h1 (by simp [h2])
  · intro h k h1 h2
    by_cases e : k = kl
    · subst e
      rw [hat, hg]
    · refine h k h1 ?_
      simpa [sameKey_ne e] using h2
theorem allGood_bad {D0 : DataW Unit} {left : Lit → Bool} {kl : Lit} {d : DataW Unit} (hk : WideAt.IsKeyLit kl) (hat : ∀ zd, D0.atKey kl zd = d) (hg : good kl d = false) : ¬ AllGood D0 (fun z => left z && !z.sameKey kl) := by
  intro h
  have := h kl (has_true_of_atKey hat) (by simp [WideAt.sameKey_self hk])
  rw [hat, hg] at this
  cases this

/-- Nothing is left to come: what is kept. -/
structure Kept (Dout D0 : DataW Unit) : Prop where
  has : ∀ k, Maps.has Dout k = (Maps.has D0 k && good k (D0.atKey k .nil))
  at_ : ∀ k z, Maps.has Dout k = true → Dout.atKey k z = D0.atKey k z
theorem filt_end {Dout D0 : DataW Unit} {left : Lit → Bool} (hA : Filt Dout D0 left) (hl : ∀ k, left k = false) : Kept Dout D0 := ⟨fun k => by rw [hA.1, hl]; simp, hA.2⟩
theorem allGood_end {D0 : DataW Unit} {left : Lit → Bool} (hl : ∀ k, left k = false) : AllGood D0 left ↔ ∀ k, Maps.has D0 k = true → good k (D0.atKey k .nil) = true :=
  ⟨fun h k hk => h k hk (hl k), fun h k hk _ => h k hk⟩
/-- What is kept is all good. -/
theorem Kept.again {D1 D0 : DataW Unit} (h : Kept D1 D0) : ∀ k, Maps.has D1 k = true → good k (D1.atKey k .nil) = true := by
  intro k hk
  rw [h.at_ k .nil hk]
  have h1 := hk
  rw [h.has, Bool.and_eq_true] at h1
  exact h1.2
theorem Kept.same {D2 D1 D0 : DataW Unit} (h : Kept D1 D0) (h2 : Kept D2 D1) (c1 : Canon D1) (c2 : Canon D2) : D2 = D1 :=
  Maps.ext c2 c1 (fun k => by
    rw [h2.has]
    cases hk : Maps.has D1 k
    · rfl
    · rw [h.again k hk]; rfl) h2.at_
end Go.Proofs.YtkdkjcljdagakaaGreatFmt
