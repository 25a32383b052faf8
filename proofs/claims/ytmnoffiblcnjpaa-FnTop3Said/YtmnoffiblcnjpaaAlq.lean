/-
  The two alphabets are the same lists of letters (plain); no program in sight (conditions: those that each lemma names).
-/
import Derived.Test.YtmnoffiblcnjpaaShf
namespace Go.Proofs.Ytmnoffiblcnjpaa
open Go.RowKit Go.Sort

theorem elB_list (T : List UInt8) (C : Nat → Int) (n : Nat) : (elB T C n).toList = (List.range 64).map fun j => if j < n then elT T C j else default := by
  refine List.ext_getElem (by rw [Array.length_toList, elB_size, List.length_map, List.length_range]) fun j h1 h2 => ?_
  rw [Array.length_toList, elB_size] at h1
  have h := elB_get T C n j h1
  rw [getElem!_pos _ j (by rw [elB_size]; exact h1)] at h
  rw [Array.getElem_toList, h, List.getElem_map, List.getElem_range]
theorem elB_letters (T : List UInt8) (C : Nat → Int) (n : Nat) (hn : n ≤ 64) : (elB T C n).toList.filter (fun x => x.ch.size != 0) = (List.range n).map (elT T C) := by
  obtain ⟨m, hm⟩ : ∃ m, 64 = n + m := ⟨64 - n, by omega⟩
  rw [elB_list, hm, List.range_add, List.map_append, List.filter_append]
  have h1 : ((List.range n).map fun j => if j < n then elT T C j else default) = (List.range n).map (elT T C) := by
    refine List.map_congr_left fun j hj => ?_
    rw [if_pos (List.mem_range.1 hj)]
  have h2 : (((List.range m).map (n + ·)).map fun j => if j < n then elT T C j else default).filter (fun x => x.ch.size != 0) = [] := by
    rw [List.filter_eq_nil_iff]
    intro x hx
    obtain ⟨j, hj, rfl⟩ := List.mem_map.1 hx
    obtain ⟨i, _, rfl⟩ := List.mem_map.1 hj
    rw [if_neg (by omega)]
    decide
  rw [h1, h2, List.append_nil, List.filter_eq_self]
  intro x hx
  obtain ⟨j, _, rfl⟩ := List.mem_map.1 hx
  show ((S [T[j]!]).size != 0) = true
  rw [S_size]
  rfl
theorem nd_index : ∀ n : Fin 256, (Op.bytesLess [UInt8.ofNat n] [48] || !(Op.bytesLess [UInt8.ofNat n] [57] || [UInt8.ofNat n] == [57])) = !isDig (UInt8.ofNat n) := by decide +kernel
theorem nd_elT (T : List UInt8) (C : Nat → Int) (i : Nat) : ND (elT T C i) = !isDig T[i]! := by
  have h := nd_index ⟨T[i]!.toNat, T[i]!.toNat_lt⟩
  unfold ND
  show (Op.bytesLess (S [T[i]!]).toList [48] || !(Op.bytesLess (S [T[i]!]).toList [57] || (S [T[i]!]).toList == [57])) = _
  rw [S_toList]
  simpa using h
section
variable {T : List UInt8} {C : Nat → Int} {o : List Nat} {d' : Array El}
theorem same_letters (hn : T.length ≤ 64) (ho : Ordered T C o) (hP : PermIn 0 64 (elB T C T.length) d') (hS : SortedIn ltE 0 64 d') : o.map (elT T C) = d'.toList.filter fun x => x.ch.size != 0 := by
  refine letters_eq (d := elB T C T.length) (by rw [elB_size]; exact hP) (by rw [elB_size]; exact hS) ?_ ?_ ?_
  · rw [elB_letters _ _ _ hn]
    exact ho.1.map _
  · rw [List.pairwise_map]
    exact ho.2
  · intro x hx y hy e
    obtain ⟨i, _, rfl⟩ := List.mem_map.1 hx
    obtain ⟨j, _, rfl⟩ := List.mem_map.1 hy
    have : i = j := e
    rw [this]
theorem same_tail (hn : T.length ≤ 64) (ho : Ordered T C o) (hP : PermIn 0 64 (elB T C T.length) d') (hS : SortedIn ltE 0 64 d') : cat d'.toList = o.map fun i => T[i]! := by
  rw [← cat_filter, ← same_letters hn ho hP hS, cat_elT]
theorem same_head (hn : T.length ≤ 64) (ho : Ordered T C o) (hP : PermIn 0 64 (elB T C T.length) d') (hS : SortedIn ltE 0 64 d') : cat (d'.toList.filter ND) = (o.map fun i => T[i]!).filter fun c => !isDig c := by
  rw [← cat_filter, List.filter_filter]
  have h : (d'.toList.filter fun a => a.ch.size != 0 && ND a) = (d'.toList.filter fun x => x.ch.size != 0).filter ND := by
    rw [List.filter_filter]
    congr 1
    funext a
    exact Bool.and_comm _ _
  rw [h, ← same_letters hn ho hP hS, List.filter_map, cat_elT, List.filter_map]
  congr 2
  funext i
  exact nd_elT T C i
theorem tails_perm (ho : Ordered T C o) : (o.map fun i => T[i]!).Perm T := by
  refine (ho.1.map _).trans (List.Perm.of_eq ?_)
  refine List.ext_getElem (by rw [List.length_map, List.length_range]) fun j h1 h2 => ?_
  rw [List.getElem_map, List.getElem_range, getElem!_pos T j h2]
end
theorem js_nodup : jsT.Nodup := by decide +kernel
theorem css_nodup : (jsT.take 63).Nodup := by decide +kernel
theorem js_heads : (jsT.filter fun c => !isDig c).length = 54 := by decide +kernel
theorem css_heads : ((jsT.take 63).filter fun c => !isDig c).length = 53 := by decide +kernel
/-- What the numbering asks of its two alphabets. -/
structure Alph (H R : List UInt8) : Prop where
  h2 : 2 ≤ H.length
  r2 : 2 ≤ R.length
  h64 : H.length ≤ 64
  r64 : R.length ≤ 64
  hd : H.Nodup
  rd : R.Nodup
theorem alph_of {T : List UInt8} {C : Nat → Int} {o : List Nat} (ho : Ordered T C o) (hd : T.Nodup) (h2 : 2 ≤ (T.filter fun c => !isDig c).length) (h64 : T.length ≤ 64) : Alph ((o.map fun i => T[i]!).filter fun c => !isDig c) (o.map fun i => T[i]!) := by
  have hp := tails_perm ho
  have hf : ((o.map fun i => T[i]!).filter fun c => !isDig c).Perm (T.filter fun c => !isDig c) := hp.filter _
  have hle := List.length_filter_le (fun c => !isDig c) T
  exact ⟨by rw [hf.length_eq]; exact h2, by rw [hp.length_eq]; omega, by rw [hf.length_eq]; omega, by rw [hp.length_eq]; exact h64, hf.nodup_iff.2 (hd.filter _), hp.nodup_iff.2 hd⟩
end Go.Proofs.Ytmnoffiblcnjpaa
