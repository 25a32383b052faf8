/-
  A region that draws its order, walked by an invariant over what has been done; conditions: those that it names.
-/
import Derived.Test.YtjanppdeddfehaaFmtDec
import Derived.RegionTactic
namespace Go.Proofs.YtjanppdeddfehaaFmt
open Go.RowKit

/-- How many operations are still to come. -/
def undone (l : Array Bool) : Nat := (l.toList.filter (fun b => !b)).length
theorem undone_set_list : ∀ (l : List Bool) (i : Nat), l[i]? = some false → ((l.set i true).filter (fun b => !b)).length + 1 = (l.filter (fun b => !b)).length
  | [], i, h => by simp at h
  | b :: r, 0, h => by
    obtain rfl : b = false := by simpa using h
    simp
  | b :: r, i + 1, h => by
    have ih := undone_set_list r i (by simpa using h)
    cases b <;> simp at ih ⊢ <;> omega
theorem undone_set {l : Array Bool} {i : Nat} (h : l[i]? = some false) : undone (l.setIfInBounds i true) + 1 = undone l := by
  unfold undone
  rw [Array.toList_setIfInBounds]
  exact undone_set_list _ _ (by rw [Array.getElem?_toList]; exact h)
theorem undone_zero_list : ∀ (l : List Bool), (l.filter (fun b => !b)).length = 0 → ∀ (i : Nat) (b : Bool), l[i]? = some b → b = true
  | [], _, i, b, h => by simp at h
  | c :: r, h0, 0, b, h => by
    obtain rfl : c = b := by simpa using h
    cases c
    · simp at h0
    · rfl
  | c :: r, h0, i + 1, b, h => by
    refine undone_zero_list r ?_ i b (by simpa using h)
    cases c
    · simp at h0
    · simpa using h0
theorem ready_spec {md : Region.Mode} {ops : Array Oper} {listed : Array Bool} {i : Nat} (h : i ∈ Region.ready md ops listed) :
    ∃ o, ops[i]? = some o ∧ listed.getD i true = false ∧ ∀ e ∈ o.after, Region.binds md e = true → listed.getD e.on false = true := by
  unfold Region.ready at h
  obtain ⟨_, h2⟩ := List.mem_filter.1 h
  simp only [Bool.and_eq_true, Bool.not_eq_true'] at h2
  obtain ⟨h3, h4⟩ := h2
  cases ho : ops[i]? with
  | none => rw [ho] at h4; simp at h4
  | some o =>
    rw [ho] at h4
    refine ⟨o, rfl, h3, fun e he hb => ?_⟩
    have h5 : (o.after.all fun e => !Region.binds md e || listed.getD e.on false) = true := by simpa using h4
    have h6 := Array.all_eq_true_iff_forall_mem.1 h5 e he
    rw [hb] at h6
    simpa using h6
theorem ready_mk {md : Region.Mode} {ops : Array Oper} {listed : Array Bool} {i : Nat} {o : Oper} (ho : ops[i]? = some o) (h1 : listed.getD i true = false) (h2 : ∀ e ∈ o.after, Region.binds md e = true → listed.getD e.on false = true) : i ∈ Region.ready md ops listed := by
  unfold Region.ready
  refine List.mem_filter.2 ⟨List.mem_range.2 (Array.getElem?_eq_some_iff.1 ho).1, ?_⟩
  rw [h1, ho]
  simp only [Bool.not_false, Bool.true_and, Option.map_some, Option.getD_some]
  refine Array.all_eq_true_iff_forall_mem.2 fun e he => ?_
  cases hb : Region.binds md e
  · rfl
  · rw [h2 e he hb]
    rfl
theorem getD_of {l : Array Bool} {i : Nat} {b c : Bool} (h : l[i]? = some b) : l.getD i c = b := by
  rw [Array.getD_eq_getD_getElem?, h]
  rfl
/-- THE INVARIANT's RULE. -/
theorem wpAny_inv {P : Program} {md : Region.Mode} {ops : Array Oper} {Q : Exit → Act → World → Prop} (I : Array Bool → Act → World → Prop)
    (hd : ∀ (i : Nat) (o : Oper), ops[i]? = some o → ∀ e ∈ o.after, Region.binds md e = true → e.on < i)
    (hsz : ∀ listed a w, I listed a w → listed.size = ops.size)
    (hstep : ∀ (listed : Array Bool) (a : Act) (w : World) (i : Nat) (o : Oper), I listed a w → ops[i]? = some o → listed[i]? = some false → (∀ e ∈ o.after, Region.binds md e = true → listed[e.on]? = some true) → wpOp P ops Q i (I (listed.setIfInBounds i true)) a w)
    (hend : ∀ (listed : Array Bool) (a : Act) (w : World), I listed a w → (∀ i, i < ops.size → listed[i]? = some true) → Q .normal a w) :
    ∀ (fuel : Nat) (listed : Array Bool) (a : Act) (w : World), I listed a w → undone listed ≤ fuel → wpAny P md ops Q fuel listed a w := by
  have hno : ∀ listed a w, I listed a w → Region.ready md ops listed = [] → ∀ i, i < ops.size → listed[i]? = some true := fun listed a w h hr i => by
    induction i using Nat.strongRecOn with
    | ind i ih =>
      intro hi
      have hs := hsz _ _ _ h
      cases hb : listed[i]? with
      | none => rw [Array.getElem?_eq_none_iff] at hb; omega
      | some b =>
        cases b with
        | true => rfl
        | false =>
          have ho : ops[i]? = some ops[i] := Array.getElem?_eq_getElem hi
          have : i ∈ Region.ready md ops listed := ready_mk ho (getD_of hb) fun e he hbd => by
            have hlt := hd i _ ho e he hbd
            exact getD_of (ih e.on hlt (by omega))
          rw [hr] at this
          cases this
  intro fuel
  induction fuel with
  | zero =>
    intro listed a w h hu
    have hs := hsz _ _ _ h
    have hall : ∀ i, i < ops.size → listed[i]? = some true := fun i hi => by
      have h1 : listed[i]? = some listed[i] := Array.getElem?_eq_getElem (by omega)
      rw [h1, undone_zero_list listed.toList (by unfold undone at hu; omega) i listed[i] (by rw [Array.getElem?_toList]; exact h1)]
    refine ⟨?_, hend _ _ _ h hall⟩
    apply List.eq_nil_iff_forall_not_mem.2
    intro i hi
    obtain ⟨o, ho, h1, _⟩ := ready_spec hi
    rw [getD_of (hall i (Array.getElem?_eq_some_iff.1 ho).1)] at h1
    cases h1
  | succ fuel ih =>
    intro listed a w h hu
    refine ⟨fun hr => hend _ _ _ h (hno _ _ _ h hr), fun i hi => ?_⟩
    obtain ⟨o, ho, h1, h2⟩ := ready_spec hi
    have hs := hsz _ _ _ h
    have hlt := (Array.getElem?_eq_some_iff.1 ho).1
    have hl : listed[i]? = some false := by
      rw [Array.getElem?_eq_getElem (by omega)] at *
      rw [Array.getD_eq_getD_getElem?, Array.getElem?_eq_getElem (by omega)] at h1
      simpa using h1
    refine wpOp_mono (fun a' w' h' => ih _ a' w' h' (by have := undone_set hl; omega)) (hstep listed a w i o h ho hl fun e he hb => ?_)
    have h3 := h2 e he hb
    have h4 := hd i o ho e he hb
    rw [Array.getD_eq_getD_getElem?, Array.getElem?_eq_getElem (by omega)] at h3
    rw [Array.getElem?_eq_getElem (by omega)]
    simpa using h3
end Go.Proofs.YtjanppdeddfehaaFmt
