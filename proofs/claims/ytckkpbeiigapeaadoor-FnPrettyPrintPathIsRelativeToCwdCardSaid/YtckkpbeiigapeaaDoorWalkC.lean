/-
  The walk of the law that a path is printed relative to the working directory: it returns true for every input; conditions: none (an input beyond the guards answers at once).
-/
import Derived.Test.YtckkpbeiigapeaaDoorWalkB
import Derived.Test.YtckkpbeiigapeaaDoorRow
import Derived.OwnWalk
import Derived.Deep.DeepCutAuto
import Derived.Deep.CutBlock
import Derived.BigQuiet
import Derived.Deep.QuietTactic
namespace Go.Proofs.YtckkpbeiigapeaaDoor
open Go.RowKit

set_option maxHeartbeats 1000000 in
theorem bytesB_any (a0 a1 : Option Addr) (l0 c0 l1 c1 : Nat) (ss ts : List ByteArray) (w : World) (h0 : InRow w a0 l0 c0 (ss.map Value.string)) (hs : ∀ s ∈ ss, s.size ≤ maxLen) (h1 : InRow w a1 l1 c1 (ts.map Value.string)) (ht : ∀ s ∈ ts, s.size ≤ maxLen) :
    Calls Tryd.prog 10 #[.slice a0 l0 c0, .slice a1 l1 c1] w (Ans (l0 + tot ss + l1 + tot ts ≤ 1048576) w) := by
  have hcap := h0.cap
  have hcap1 := h1.cap
  have hlen := h0.len
  have hlen1 := h1.len
  rw [List.length_map] at hlen hlen1
  have H0 := Lib.hid h0
  have HS := Lib.hid hs
  have HL := Lib.hid hlen
  have H1 := Lib.hid h1
  have HT := Lib.hid ht
  have HL1 := Lib.hid hlen1
  clear h0 hs hlen h1 ht hlen1
  unfold maxLen at hcap hcap1
  obtain ⟨hc1, hc2⟩ := hcap
  obtain ⟨hc3, hc4⟩ := hcap1
  go_enter Tryd.func10, Tryd.ntmps10
  go_wp2_with fail
  all_goals first
    | (go_ret; exact ⟨_, rfl, rfl, fun h => by cases h⟩)
    | skip
  go_loop [5, 6] (fun s7 s8 => TotRel ss l0 l0 s7 s8) (fun _ s8 => l0 - (intOf s8).toNat)
  case atStart => exact ⟨0, Nat.zero_le _, rfl, by simp [tot], by simp [tot]; omega⟩
  case round =>
    obtain ⟨k, hk, rfl, rfl, hn⟩ := hrel
    by_cases hlt : k < l0
    · obtain ⟨x, s, rfl, hsk, hc⟩ := H0.out.get hlt
      have hsz := HS.out s (List.mem_of_getElem? hsk)
      unfold maxLen at hsz
      have hnx := tot_next hsk
      obtain ⟨m, hm⟩ : ∃ m, tot (ss.take k) = m := ⟨_, rfl⟩
      rw [hm] at hn hnx ⊢
      have HX := Lib.hid hnx
      clear hnx hm hsk
      go_wp2_with fail
      all_goals first
        | (go_ret; exact ⟨_, rfl, rfl, fun h => by cases h⟩)
        | skip
      go_round
      case rel => exact ⟨k + 1, by omega, by go_num, by rw [HX.out]; go_num, by rw [HX.out]; omega⟩
      case measure => simp [intOf]; omega
    · have he := tot_all (ss := ss) (k := k) (by have := HL.out; omega)
      rw [he] at hn ⊢
      obtain ⟨m, hm⟩ : ∃ m, tot ss = m := ⟨_, rfl⟩
      rw [hm] at hn ⊢
      have HM := Lib.hid hm
      clear he hm
      go_wp2_with fail
      all_goals first
        | (go_ret; exact ⟨_, rfl, rfl, fun h => by cases h⟩)
        | skip
      go_loop [5, 7] (fun s7 s8 => TotRel ts l1 (l0 + m + l1) s7 s8) (fun _ s8 => l1 - (intOf s8).toNat)
      case atStart => exact ⟨0, Nat.zero_le _, rfl, by simp [tot], by simp [tot]; omega⟩
      case round =>
        obtain ⟨k2, hk2, rfl, rfl, hn2⟩ := hrel
        by_cases hlt2 : k2 < l1
        · obtain ⟨x, s, rfl, hsk, hc⟩ := H1.out.get hlt2
          have hsz := HT.out s (List.mem_of_getElem? hsk)
          unfold maxLen at hsz
          have hnx := tot_next hsk
          obtain ⟨m2, hm2⟩ : ∃ m, tot (ts.take k2) = m := ⟨_, rfl⟩
          rw [hm2] at hn2 hnx ⊢
          have HX := Lib.hid hnx
          clear hnx hm2 hsk
          go_wp2_with fail
          all_goals first
            | (go_ret; exact ⟨_, rfl, rfl, fun h => by cases h⟩)
            | skip
          go_round
          case rel => exact ⟨k2 + 1, by omega, by go_num, by rw [HX.out]; go_num, by rw [HX.out]; omega⟩
          case measure => simp [intOf]; omega
        · have he2 := tot_all (ss := ts) (k := k2) (by have := HL1.out; omega)
          rw [he2] at hn2
          have HM2 := Lib.hid hn2
          rw [he2]
          obtain ⟨m2, hm2⟩ : ∃ m, tot ts = m := ⟨_, rfl⟩
          rw [hm2] at hn2 ⊢
          have HX := Lib.hid hm2
          clear he2 hm2
          go_wp2_with fail
          all_goals
            go_ret
            exact ⟨_, rfl, rfl, fun h => by first | exact absurd h (by decide) | (have := HM2.out; have := HM.out; have := HX.out; omega)⟩

/-- The way as the law builds it. -/
def parts (C P : List Bs) (k : Nat) : List Bs := (C.drop k).map (fun _ => DD) ++ P.drop k
theorem same_take {C P : List Bs} {k : Nat} (h : C.take k = P.take k) (h1 : k < C.length) (h2 : k < P.length) (he : C[k] = P[k]) : C.take (k + 1) = P.take (k + 1) := by
  rw [List.take_succ_eq_append_getElem h1, List.take_succ_eq_append_getElem h2, h, he]
theorem Ls_len (ss : List ByteArray) : (Ls ss).length = ss.length := by simp [Ls]
theorem Ls_get {ss : List ByteArray} {k : Nat} {s : ByteArray} (h : ss[k]? = some s) : (Ls ss)[k]? = some s.data.toList := by
  unfold Ls
  rw [List.getElem?_map, h]
  rfl
theorem seg_eq {a b : ByteArray} (h : (a.toList == b.toList) = true) : a.data.toList = b.data.toList := by
  have := beq_iff_eq.1 h
  rwa [Lib.toList_data, Lib.toList_data] at this
theorem seg_no {a b : ByteArray} (h : (a.toList == b.toList) = false) : a.data.toList ≠ b.data.toList := by
  intro e
  rw [Lib.toList_data, Lib.toList_data, e, beq_self_eq_true] at h
  cases h
/-- What is settled ahead of the loops. -/
structure Pre (ss ts : List ByteArray) (l0 l1 : Nat) : Prop where
  n0 : ss.length = l0
  n1 : ts.length = l1
  z : l0 + tot ss + l1 + tot ts ≤ 1048576
  s0 : Segs (Ls ss)
  s1 : Segs (Ls ts)
  p0 : l0 ≠ 0
  p1 : l1 ≠ 0
theorem Pre.ne0 {ss ts : List ByteArray} {l0 l1 : Nat} (h : Pre ss ts l0 l1) : Ls ss ≠ [] := Ls_ne (by
  intro e
  exact h.p0 (by rw [← h.n0, e]; rfl))
theorem Pre.ne1 {ss ts : List ByteArray} {l0 l1 : Nat} (h : Pre ss ts l0 l1) : Ls ts ≠ [] := Ls_ne (by
  intro e
  exact h.p1 (by rw [← h.n1, e]; rfl))
theorem Pre.z0 {ss ts : List ByteArray} {l0 l1 : Nat} (h : Pre ss ts l0 l1) : (J (Ls ss)).length ≤ 2097152 := by
  have h1 := J_len_tot ss
  have h2 := h.n0
  have h3 := h.z
  omega
theorem Pre.z1 {ss ts : List ByteArray} {l0 l1 : Nat} (h : Pre ss ts l0 l1) : (J (Ls ts)).length ≤ 2097152 := by
  have h1 := J_len_tot ts
  have h2 := h.n1
  have h3 := h.z
  omega
/-- k is how much both share. -/
def Share (C P : List Bs) (k : Nat) : Prop := C.take k = P.take k ∧ k ≤ C.length ∧ k ≤ P.length
theorem Share.way {C P : List Bs} {k : Nat} (h : Share C P k) (he : k = C.length ∨ k = P.length ∨ C[k]? ≠ P[k]?) : way C P = parts C P k := way_take k C P h.1 h.2.1 h.2.2 he
theorem Share.next {C P : List Bs} {k : Nat} {x : Bs} (h : Share C P k) (h1 : C[k]? = some x) (h2 : P[k]? = some x) : Share C P (k + 1) := by
  obtain ⟨k1, e1⟩ := List.getElem?_eq_some_iff.1 h1
  obtain ⟨k2, e2⟩ := List.getElem?_eq_some_iff.1 h2
  exact ⟨same_take h.1 k1 k2 (by rw [e1, e2]), k1, k2⟩

/-- The strings of the way up to a place. -/
def dots (n : Nat) : List ByteArray := List.replicate n ⟨#[46, 46]⟩
theorem Ls_dots {C : List Bs} {k : Nat} : Ls (dots (C.length - k)) = (C.drop k).map fun _ => DD := by
  unfold Ls dots
  rw [List.map_replicate]
  apply List.ext_getElem
  · simp
  · intro i h1 h2
    simp [DD]
theorem Ls_append (a b : List ByteArray) : Ls (a ++ b) = Ls a ++ Ls b := by simp [Ls]
theorem Ls_drop (a : List ByteArray) (k : Nat) : Ls (a.drop k) = (Ls a).drop k := by simp [Ls, List.map_drop]
theorem tot_append (a b : List ByteArray) : tot (a ++ b) = tot a + tot b := by simp [tot]
theorem tot_dots (n : Nat) : tot (dots n) = 2 * n := by
  induction n with
  | zero => rfl
  | succ n ih =>
    have e : dots (n + 1) = ⟨#[46, 46]⟩ :: dots n := rfl
    have e2 : tot ((⟨#[46, 46]⟩ : ByteArray) :: dots n) = 2 + tot (dots n) := by
      unfold tot
      rw [List.map_cons, List.sum_cons]
      rfl
    rw [e, e2, ih]
    omega
theorem tot_drop_le (ss : List ByteArray) (k : Nat) : tot (ss.drop k) ≤ tot ss := by
  have h := tot_append (ss.take k) (ss.drop k)
  rw [List.take_append_drop] at h
  omega
end Go.Proofs.YtckkpbeiigapeaaDoor
