/-
  The order of the letters is one alone (plain); no program in sight (conditions: those that each lemma names).
-/
import Derived.Test.YtmnoffiblcnjpaaCnt
namespace Go.Proofs.Ytmnoffiblcnjpaa
open Go.RowKit Go.Sort

theorem ltE_tie {x y : El} (h1 : ltE x y = false) (h2 : ltE y x = false) : x.ct = y.ct ∧ x.ix = y.ix := by
  rw [ltE_not] at h1 h2
  omega
theorem sorted_eq {L1 L2 : List El} (hp : L1.Perm L2) (h1 : L1.Pairwise (fun x y => ltE y x = false)) (h2 : L2.Pairwise (fun x y => ltE y x = false)) (hu : ∀ x, x ∈ L1 → ∀ y, y ∈ L1 → x.ix = y.ix → x = y) : L1 = L2 :=
  List.Perm.eq_of_pairwise (fun a b ha hb hab hba => hu a ha b (hp.mem_iff.2 hb) (ltE_tie hba hab).2) h1 h2 hp
/-- A sorted row, as a list. -/
theorem sorted_list {d : Array El} (h : SortedIn ltE 0 d.size d) : d.toList.Pairwise (fun x y => ltE y x = false) := by
  rw [List.pairwise_iff_getElem]
  intro i j hi hj hij
  have hi' : i < d.size := by simpa using hi
  have hj' : j < d.size := by simpa using hj
  have := h i j (Nat.zero_le _) hij hj'
  rw [getElem!_pos d i hi', getElem!_pos d j hj'] at this
  simpa using this
theorem perm_list {d d' : Array El} (h : PermIn 0 d.size d d') : d'.toList.Perm d.toList := by
  have := h.2.2
  rw [show d.extract 0 d.size = d by simp, show d'.extract 0 d.size = d' by rw [← h.1]; simp] at this
  exact this
/-- The elements that bear a letter, of a sorted row: whatever the road, the same list. -/
theorem letters_eq {d d' : Array El} {L : List El} (hP : PermIn 0 d.size d d') (hS : SortedIn ltE 0 d.size d') (hL : L.Perm (d.toList.filter fun x => x.ch.size != 0)) (hLs : L.Pairwise (fun x y => ltE y x = false))
    (hu : ∀ x, x ∈ L → ∀ y, y ∈ L → x.ix = y.ix → x = y) : L = d'.toList.filter fun x => x.ch.size != 0 := by
  refine sorted_eq (hL.trans ((perm_list hP).filter _).symm) hLs ?_ hu
  rw [← hP.1] at hS
  exact (sorted_list hS).filter _
end Go.Proofs.Ytmnoffiblcnjpaa
