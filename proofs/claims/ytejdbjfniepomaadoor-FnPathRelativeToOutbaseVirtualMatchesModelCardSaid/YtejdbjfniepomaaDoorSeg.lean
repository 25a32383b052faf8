/-
  A path's last segment, cut at its last dot; no program in sight (no conditions).
-/
import Derived.Test.YtejdbjfniepomaaDoorStem
import Derived.Test.YtejdbjfniepomaaDoorStr
import Derived.Lib.LastIndexByte
namespace Go.Proofs.YtejdbjfniepomaaDoor

def segL (l : List UInt8) : List UInt8 := (l.reverse.takeWhile fun b => !sepB b).reverse
theorem seg_none {l : List UInt8} (h : NoSepFrom l 0) : segL l = l := by
  have hp : ∀ b ∈ l.reverse, (!sepB b) = true := by
    intro b hb
    obtain ⟨j, hj⟩ := List.mem_iff_getElem?.1 (List.mem_reverse.1 hb)
    rw [h j b (Nat.zero_le _) hj]
    rfl
  unfold segL
  have h1 := List.takeWhile_append_of_pos (l₂ := []) hp
  rw [List.append_nil] at h1
  rw [h1]
  simp
theorem seg_at {l : List UInt8} {k : Nat} {c : UInt8} (hc : l[k]? = some c) (hs : sepB c = true) (h : NoSepFrom l (k + 1)) : segL l = l.drop (k + 1) := by
  obtain ⟨hk, he⟩ := List.getElem?_eq_some_iff.1 hc
  have hl : l = l.take k ++ c :: l.drop (k + 1) := by rw [← he, ← List.drop_eq_getElem_cons hk, List.take_append_drop]
  have hp : ∀ b ∈ (l.drop (k + 1)).reverse, (!sepB b) = true := by
    intro b hb
    obtain ⟨j, hj⟩ := List.mem_iff_getElem?.1 (List.mem_reverse.1 hb)
    rw [List.getElem?_drop] at hj
    rw [h _ b (by omega) hj]
    rfl
  unfold segL
  have e : l.reverse = (l.drop (k + 1)).reverse ++ c :: (l.take k).reverse := by
    conv => lhs; rw [hl]
    simp
  rw [e, List.takeWhile_append_of_pos hp, List.takeWhile_cons, hs]
  simp
def MODCSS : List UInt8 := [46, 109, 111, 100, 117, 108, 101, 46, 99, 115, 115]
/-- Where the model speaks: no separator at the end, no '.module.css' at the segment's end. -/
def Cov (l : List UInt8) : Prop := (∀ c, l.getLast? = some c → sepB c = false) ∧ ¬ (MODCSS <:+ segL l)
def stemL (l : List UInt8) : List UInt8 := cutDot (segL l)

theorem last_sep {l : List UInt8} {k : Nat} {c : UInt8} (hc : l[k]? = some c) (hs : sepB c = true) (hk : k + 1 = l.length) : ¬ Cov l := by
  rintro ⟨h, _⟩
  have : l.getLast? = some c := by rw [List.getLast?_eq_getElem?, show l.length - 1 = k by omega, hc]
  rw [h c this] at hs
  cases hs
theorem dot_spec (b : ByteArray) : (Lib.lastIndexByte b 46 = -1 ∧ (46 : UInt8) ∉ b.data.toList) ∨
    ∃ k : Nat, Lib.lastIndexByte b 46 = (k : Int) ∧ k < b.size ∧ b.data.toList = b.data.toList.take k ++ 46 :: b.data.toList.drop (k + 1) ∧ (46 : UInt8) ∉ b.data.toList.drop (k + 1) := by
  have hat : ∀ j (hj : j < b.size), b.data[j]! = b.data.toList[j]'(by rw [← Lib.size_eq]; exact hj) := fun j hj => by
    rw [getElem!_pos b.data j hj]
    rfl
  have h46 : ∀ u : UInt8, ((u.toNat : Int) = 46) → u = 46 := fun u h => UInt8.toNat_inj.1 (by show u.toNat = 46; omega)
  rcases Lib.lastIndexByte_spec b 46 with ⟨h1, h2⟩ | ⟨k, hk, h1, h2, h3⟩
  · refine .inl ⟨h1, fun hm => ?_⟩
    obtain ⟨j, hj, he⟩ := List.mem_iff_getElem.1 hm
    have hjs : j < b.size := by rw [Lib.size_eq]; exact hj
    exact h2 j hjs (by rw [hat j hjs, he]; rfl)
  · refine .inr ⟨k, h1, hk, ?_, fun hm => ?_⟩
    · have hkl : k < b.data.toList.length := by rw [← Lib.size_eq]; exact hk
      have e : b.data.toList[k] = 46 := by
        rw [← hat k hk]
        exact h46 _ h2
      rw [← e, ← List.drop_eq_getElem_cons hkl, List.take_append_drop]
    · obtain ⟨j, hj, he⟩ := List.mem_iff_getElem.1 hm
      rw [List.length_drop, ← Lib.size_eq] at hj
      rw [List.getElem_drop] at he
      have hjs : k + 1 + j < b.size := by omega
      exact h3 (k + 1 + j) (by omega) hjs (by rw [hat _ hjs, he]; rfl)
theorem stem_none {b l : List UInt8} (h : b = segL l) (hn : (46 : UInt8) ∉ b) : b = stemL l := by
  unfold stemL
  rw [← h, cutDot_none b hn]
theorem stem_some {b l : List UInt8} {k : Nat} (h : b = segL l) (e : b = b.take k ++ 46 :: b.drop (k + 1)) (hn : (46 : UInt8) ∉ b.drop (k + 1)) : b.take k = stemL l := by
  unfold stemL
  rw [← h]
  conv => rhs; rw [e]
  rw [cutDot_some _ _ hn]

end Go.Proofs.YtejdbjfniepomaaDoor
