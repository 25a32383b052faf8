/-
  The loop of sort.pdqsort in plain words: what is in order already, what a step adds; no program in sight (conditions: those that each lemma names).
-/
import Derived.Test.YtmnoffiblcnjpaaBrk
namespace Go.Proofs.Ytmnoffiblcnjpaa
open Go.RowKit Go.Sort

theorem ltE_iff (x y : El) : ltE x y = true ↔ y.ct < x.ct ∨ (x.ct = y.ct ∧ x.ix < y.ix) := by
  unfold ltE
  simp
theorem ltE_not (x y : El) : ltE x y = false ↔ ¬ (y.ct < x.ct ∨ (x.ct = y.ct ∧ x.ix < y.ix)) := by
  rw [← ltE_iff]
  simp
theorem swoE : SWO ltE :=
  ⟨fun x => by rw [ltE_not]; omega, fun x y z h1 h2 => by rw [ltE_iff] at *; omega, fun x y z h1 h2 => by rw [ltE_not] at *; omega⟩
/-- Of [a0, b0) all that stands left of a or from b on is in order with all else. -/
structure QInv (a0 b0 a b : Nat) (d dk : Array El) : Prop where
  perm : PermIn a0 b0 d dk
  h0 : a0 ≤ a
  h1 : a ≤ b
  h2 : b ≤ b0
  below : Below ltE a b dk
  done : ∀ i j, a0 ≤ i → i < j → j < b0 → (i < a ∨ b ≤ j) → ltE dk[j]! dk[i]! = false
variable {a0 b0 a b m N : Nat} {d dk d' : Array El}
theorem QInv.start (hab : a ≤ b) (hB : Below ltE a b d) : QInv a b a b d d := ⟨permIn_refl _ _ _, Nat.le_refl _, hab, Nat.le_refl _, hB, fun i j _ _ _ h => by omega⟩
theorem QInv.turn (h : QInv a0 b0 a b d dk) (hs : dk.size = N) (hb : b0 ≤ N) (hp : PermIn a b dk d') : QInv a0 b0 a b d d' := by
  have hbs : b ≤ dk.size := by have := h.h2; omega
  refine ⟨permIn_trans _ _ _ _ _ h.perm (permIn_mono _ _ a b a0 b0 h.h0 h.h2 (by omega) hp), h.h0, h.h1, h.h2, h.below.perm hbs hp, fun i j h1 h2 h3 h4 => ?_⟩
  rcases h4 with h4 | h4
  · rw [hp.2.1 i (Or.inl h4)]
    by_cases hj : j < a ∨ b ≤ j
    · rw [hp.2.1 j hj]
      exact h.done i j h1 h2 h3 (Or.inl h4)
    · exact permIn_all _ _ a b (fun x => ltE x dk[i]! = false) hbs hp (fun k k1 k2 => h.done i k h1 (by omega) (by have := h.h2; omega) (Or.inl h4)) j (by omega) (by omega)
  · rw [hp.2.1 j (Or.inr h4)]
    by_cases hi : i < a ∨ b ≤ i
    · rw [hp.2.1 i hi]
      exact h.done i j h1 h2 h3 (Or.inr h4)
    · exact permIn_all _ _ a b (fun x => ltE dk[j]! x = false) hbs hp (fun k k1 k2 => h.done k j (by have := h.h0; omega) (by omega) h3 (Or.inr h4)) i (by omega) (by omega)
theorem QInv.close (h : QInv a0 b0 a b d dk) (hs : dk.size = N) (hb : b0 ≤ N) (hp : PermIn a b dk d') (hS : SortedIn ltE a b d') : PermIn a0 b0 d d' ∧ SortedIn ltE a0 b0 d' := by
  have k := h.turn hs hb hp
  refine ⟨k.perm, fun i j h1 h2 h3 => ?_⟩
  by_cases h4 : i < a ∨ b ≤ j
  · exact k.done i j h1 h2 h3 h4
  · exact hS i j (by omega) h2 (by omega)
theorem QInv.equal {p : El} (h : QInv a0 b0 a b d dk) (hs : dk.size = N) (hb : b0 ≤ N) (he : Equalled a b m p dk d') (h0 : 0 < a) (hl : ltE dk[a - 1]! p = false) : QInv a0 b0 m b d d' := by
  have k := h.turn hs hb he.perm
  have e0 : d'[a - 1]! = dk[a - 1]! := he.perm.2.1 _ (Or.inl (by omega))
  have kb : ∀ j, a ≤ j → j < b → ltE d'[j]! dk[a - 1]! = false := fun j j1 j2 => by
    rcases k.below with z | z
    · omega
    · rw [← e0]; exact z j j1 j2
  have key : ∀ i j, a ≤ i → i < m → a ≤ j → j < b → ltE d'[j]! d'[i]! = false := fun i j i1 i2 j1 j2 =>
    swoE.ntrans _ _ _ (swoE.ntrans _ _ _ (kb j j1 j2) hl) (he.lo i i1 i2)
  have am := he.am
  have mb := he.mb
  refine ⟨k.perm, by have := h.h0; omega, mb, h.h2, Or.inr fun i i1 i2 => key (m - 1) i (by omega) (by omega) (by omega) i2, fun i j h1 h2 h3 h4 => ?_⟩
  by_cases h5 : i < a ∨ b ≤ j
  · exact k.done i j h1 h2 h3 h5
  · exact key i j (by omega) (by omega) (by omega) (by omega)
theorem QInv.glue (h : QInv a0 b0 a b d dk) (hs : dk.size = N) (hb : b0 ≤ N) (hp : PermIn a b dk d') (am : a ≤ m) (mb : m < b)
    (lo : ∀ k, a ≤ k → k < m → ltE d'[m]! d'[k]! = false) (hi : ∀ k, m < k → k < b → ltE d'[k]! d'[m]! = false) :
    (SortedIn ltE a m d' → QInv a0 b0 (m + 1) b d d') ∧ (SortedIn ltE (m + 1) b d' → QInv a0 b0 a m d d') := by
  have k := h.turn hs hb hp
  have k0 := h.h0
  have k2 := h.h2
  have cross : ∀ i j, a ≤ i → i ≤ m → m ≤ j → j < b → i < j → ltE d'[j]! d'[i]! = false := fun i j i1 i2 j1 j2 hij => by
    by_cases e1 : i = m
    · subst e1; exact hi j hij j2
    · by_cases e2 : j = m
      · subst e2; exact lo i i1 hij
      · exact swoE.ntrans _ _ _ (hi j (by omega) j2) (lo i i1 (by omega))
  constructor
  · intro hS
    refine ⟨k.perm, by omega, by omega, k2, Or.inr fun i i1 i2 => hi i (by omega) i2, fun i j h1 h2 h3 h4 => ?_⟩
    by_cases h5 : i < a ∨ b ≤ j
    · exact k.done i j h1 h2 h3 h5
    · by_cases h6 : j < m
      · exact hS i j (by omega) h2 h6
      · exact cross i j (by omega) (by omega) (by omega) (by omega) h2
  · intro hS
    refine ⟨k.perm, k0, am, by omega, ?_, fun i j h1 h2 h3 h4 => ?_⟩
    · exact k.below.mono (by omega)
    · by_cases h5 : i < a ∨ b ≤ j
      · exact k.done i j h1 h2 h3 h5
      · by_cases h6 : m < i
        · exact hS i j (by omega) h2 (by omega)
        · exact cross i j (by omega) (by omega) (by omega) (by omega) h2
/-- What the two halves may ask of a partition. -/
theorem Parted.belowL (h : Parted a b m dk d') (hs : dk.size = N) (hb : b ≤ N) (hB : Below ltE a b dk) : Below ltE a m d' := (hB.perm (by omega) h.perm).mono (by have := h.mb; omega)
theorem Parted.belowR (h : Parted a b m dk d') : Below ltE (m + 1) b d' := Or.inr fun i i1 i2 => h.hi i (by omega) i2
theorem QInv.left {dq : Array El} (h : QInv a0 b0 a b d dk) (hs : dk.size = N) (hb : b0 ≤ N) (hP : Parted a b m dk d') (hp : PermIn a m d' dq) (hS : SortedIn ltE a m dq) : QInv a0 b0 (m + 1) b d dq := by
  have am := hP.am
  have mb := hP.mb
  have k2 := h.h2
  have s1 : d'.size = N := hP.perm.1.trans hs
  have em : dq[m]! = d'[m]! := hp.2.1 m (Or.inr (Nat.le_refl _))
  refine (h.glue hs hb (permIn_trans _ _ _ _ _ hP.perm (permIn_mono _ _ a m a b (Nat.le_refl _) (by omega) (by omega) hp)) am mb ?_ ?_).1 hS
  · intro k k1 k2
    rw [em]
    exact swoE.asymm (permIn_all _ _ a m (fun x => ltE x d'[m]! = true) (by omega) hp (fun k k1 k2 => hP.lo k k1 k2) k k1 k2)
  · intro k k1 k2
    rw [em, hp.2.1 k (Or.inr (by omega))]
    exact hP.hi k k1 k2
theorem QInv.right {dq : Array El} (h : QInv a0 b0 a b d dk) (hs : dk.size = N) (hb : b0 ≤ N) (hP : Parted a b m dk d') (hp : PermIn (m + 1) b d' dq) (hS : SortedIn ltE (m + 1) b dq) : QInv a0 b0 a m d dq := by
  have am := hP.am
  have mb := hP.mb
  have k2 := h.h2
  have s1 : d'.size = N := hP.perm.1.trans hs
  have em : dq[m]! = d'[m]! := hp.2.1 m (Or.inl (by omega))
  refine (h.glue hs hb (permIn_trans _ _ _ _ _ hP.perm (permIn_mono _ _ (m + 1) b a b (by omega) (Nat.le_refl _) (by omega) hp)) am mb ?_ ?_).2 hS
  · intro k k1 k2
    rw [em, hp.2.1 k (Or.inl (by omega))]
    exact swoE.asymm (hP.lo k k1 k2)
  · intro k k1 k2
    rw [em]
    exact permIn_all _ _ (m + 1) b (fun x => ltE x d'[m]! = false) (by omega) hp (fun k k1 k2 => hP.hi k (by omega) k2) k (by omega) k2
end Go.Proofs.Ytmnoffiblcnjpaa
