/-
  The contracts of the size and domain guards; conditions: those that each names.
-/
import Derived.Test.YtcpaepfhjhcaoaaDoorLcb
import Derived.Test.YtcpaepfhjhcaoaaDoorRowIn
import Derived.Test.YtcpaepfhjhcaoaaDoorRow
import Derived.Test.YtcpaepfhjhcaoaaDoorRows
import Derived.WalkSpells
import Derived.OpenShut
import Derived.Deep.DeepCutAuto
import Derived.Deep.CutBlock
import Derived.Lib.IndexBytes
import Derived.WalkLawsBesides
namespace Go.Proofs.YtcpaepfhjhcaoaaDoor
open Go.RowKit

theorem InRow.get {α : Type} {con : α → Value} {w : World} {a : Option Addr} {len cap : Nat} {xs : List α} (h : InRow w a len cap (xs.map con)) {i : Nat} (hi : i < len) : ∃ x u, a = some x ∧ xs[i]? = some u ∧ w.cell? (x.add i) = some (con u) := by
  obtain ⟨x, h1, h2⟩ := h.at hi
  have hl := h.len
  rw [List.length_map] at hl
  refine ⟨x, xs[i], h1, List.getElem?_eq_getElem (by omega), ?_⟩
  rw [h2, List.getElem?_map, List.getElem?_eq_getElem (by omega)]
  rfl

/-- A guard's answer. -/
def Ans (P : Prop) (w : World) (e : Ending) (w' : World) : Prop := ∃ b : Bool, e = .returned (.bool b) ∧ w = w' ∧ (b = true → P)
/-- All their bytes. -/
def tot (ss : List ByteArray) : Nat := (ss.map ByteArray.size).sum
theorem tot_next {ss : List ByteArray} {k : Nat} {s : ByteArray} (h : ss[k]? = some s) : tot (ss.take (k + 1)) = tot (ss.take k) + s.size := by
  obtain ⟨hk, rfl⟩ := List.getElem?_eq_some_iff.1 h
  unfold tot
  rw [List.take_succ_eq_append_getElem hk, List.map_append, List.sum_append]
  simp
theorem tot_all {ss : List ByteArray} {k : Nat} (h : ss.length ≤ k) : tot (ss.take k) = tot ss := by rw [List.take_of_length_le h]
theorem tot_take_le (ss : List ByteArray) (k : Nat) : tot (ss.take k) ≤ tot ss := by
  unfold tot
  conv => rhs; rw [← List.take_append_drop k ss]
  rw [List.map_append, List.sum_append]
  omega
theorem tot_mem {ss : List ByteArray} {s : ByteArray} (h : s ∈ ss) : s.size ≤ tot ss := by
  unfold tot
  induction ss with
  | nil => cases h
  | cons x r ih =>
    rw [List.map_cons, List.sum_cons]
    rcases List.mem_cons.1 h with rfl | h
    · omega
    · have := ih h
      omega

def TotRel (ss : List ByteArray) (len base : Nat) (s7 s8 : Value) : Prop := ∃ k : Nat, k ≤ len ∧ s8 = .int .i64 k ∧ s7 = .int .i64 (base + tot (ss.take k) : Nat) ∧ base + tot (ss.take k) ≤ 1048576

set_option maxHeartbeats 1000000 in
theorem bytesA_any (a0 a1 : Option Addr) (l0 c0 l1 c1 : Nat) (ss : List ByteArray) (w : World) (h0 : InRow w a0 l0 c0 (ss.map Value.string)) (hs : ∀ s ∈ ss, s.size ≤ maxLen) (h1 : l1 ≤ maxLen) :
    Calls Tryd.prog 5 #[.slice a0 l0 c0, .slice a1 l1 c1] w (Ans (l0 + tot ss ≤ 1048576) w) := by
  have hcap := h0.cap
  have hlen := h0.len
  rw [List.length_map] at hlen
  have H0 := Lib.hid h0
  have HS := Lib.hid hs
  have HL := Lib.hid hlen
  clear h0 hs hlen
  unfold maxLen at h1 hcap
  obtain ⟨hc1, hc2⟩ := hcap
  go_enter Tryd.func5, Tryd.ntmps5
  go_wp2_with fail
  all_goals first
    | (go_ret; exact ⟨_, rfl, rfl, fun h => by cases h⟩)
    | skip
  go_loop [5, 6] (fun s7 s8 => TotRel ss l0 l0 s7 s8) (fun _ s8 => l0 - (intOf s8).toNat)
  case atStart => exact ⟨0, Nat.zero_le _, rfl, by simp [tot], by simp [tot]; omega⟩
  case round =>
    obtain ⟨k, hk, rfl, rfl, hn⟩ := hrel
    by_cases hlt : k < l0
    · obtain ⟨x, s, rfl, hsk, hc⟩ := H0.out.get hlt
      have hsz := HS.out s (List.mem_of_getElem? hsk)
      unfold maxLen at hsz
      have hnx := tot_next hsk
      obtain ⟨m, hm⟩ : ∃ m, tot (ss.take k) = m := ⟨_, rfl⟩
      rw [hm] at hn hnx ⊢
      have HX := Lib.hid hnx
      clear hnx hm hsk
      go_wp2_with fail
      all_goals first
        | (go_ret; exact ⟨_, rfl, rfl, fun h => by cases h⟩)
        | skip
      go_round
      case rel => exact ⟨k + 1, by omega, by go_num, by rw [HX.out]; go_num, by rw [HX.out]; omega⟩
      case measure => simp [intOf]; omega
    · have he := tot_all (ss := ss) (k := k) (by have := HL.out; omega)
      rw [he] at hn ⊢
      obtain ⟨m, hm⟩ : ∃ m, tot ss = m := ⟨_, rfl⟩
      rw [hm] at hn ⊢
      have HM := Lib.hid hm
      clear he hm
      go_wp2_with fail
      all_goals
        go_ret
        exact ⟨_, rfl, rfl, fun h => by first | exact absurd h (by decide) | (have := HM.out; omega)⟩

set_option maxHeartbeats 1000000 in
theorem bytesB_any (a0 a1 : Option Addr) (l0 c0 l1 c1 : Nat) (ss : List ByteArray) (p : ByteArray) (w : World) (h0 : InRow w a0 l0 c0 (ss.map Value.string)) (hs : ∀ s ∈ ss, s.size ≤ maxLen) (h1 : l1 ≤ maxLen) (hp : p.size ≤ maxLen) :
    Calls Tryd.prog 13 #[.slice a0 l0 c0, .slice a1 l1 c1, .string p] w (Ans (l0 + tot ss ≤ 1048576) w) := by
  have hcap := h0.cap
  have hlen := h0.len
  rw [List.length_map] at hlen
  have H0 := Lib.hid h0
  have HS := Lib.hid hs
  have HL := Lib.hid hlen
  clear h0 hs hlen
  unfold maxLen at h1 hcap hp
  obtain ⟨hc1, hc2⟩ := hcap
  go_enter Tryd.func13, Tryd.ntmps13
  go_wp2_with fail
  all_goals first
    | (go_ret; exact ⟨_, rfl, rfl, fun h => by cases h⟩)
    | skip
  go_loop [7, 8] (fun s7 s8 => TotRel ss l0 l0 s7 s8) (fun _ s8 => l0 - (intOf s8).toNat)
  case atStart => exact ⟨0, Nat.zero_le _, rfl, by simp [tot], by simp [tot]; omega⟩
  case round =>
    obtain ⟨k, hk, rfl, rfl, hn⟩ := hrel
    by_cases hlt : k < l0
    · obtain ⟨x, s, rfl, hsk, hc⟩ := H0.out.get hlt
      have hsz := HS.out s (List.mem_of_getElem? hsk)
      unfold maxLen at hsz
      have hnx := tot_next hsk
      obtain ⟨m, hm⟩ : ∃ m, tot (ss.take k) = m := ⟨_, rfl⟩
      rw [hm] at hn hnx ⊢
      have HX := Lib.hid hnx
      clear hnx hm hsk
      go_wp2_with fail
      all_goals first
        | (go_ret; exact ⟨_, rfl, rfl, fun h => by cases h⟩)
        | skip
      go_round
      case rel => exact ⟨k + 1, by omega, by go_num, by rw [HX.out]; go_num, by rw [HX.out]; omega⟩
      case measure => simp [intOf]; omega
    · have he := tot_all (ss := ss) (k := k) (by have := HL.out; omega)
      rw [he] at hn ⊢
      obtain ⟨m, hm⟩ : ∃ m, tot ss = m := ⟨_, rfl⟩
      rw [hm] at hn ⊢
      have HM := Lib.hid hm
      clear he hm
      go_wp2_with fail
      all_goals
        go_ret
        exact ⟨_, rfl, rfl, fun h => by first | exact absurd h (by decide) | (have := HM.out; omega)⟩

set_option maxHeartbeats 1000000 in
theorem strsBytes_any (a0 : Option Addr) (l0 c0 : Nat) (ss : List ByteArray) (w : World) (h0 : InRow w a0 l0 c0 (ss.map Value.string)) (hs : l0 + tot ss ≤ 1048576) :
    Calls Tryd.prog 14 #[.slice a0 l0 c0] w fun e w' => e = .returned (.int .i64 (16 * l0 + tot ss : Nat)) ∧ w = w' := by
  have hlen := h0.len
  rw [List.length_map] at hlen
  have H0 := Lib.hid h0
  have HL := Lib.hid hlen
  have HS := Lib.hid hs
  have hl1 : l0 ≤ 1048576 := by omega
  clear h0 hs hlen
  go_enter Tryd.func14, Tryd.ntmps14
  go_wp2_with fail
  go_loop [3, 4] (fun s7 s8 => ∃ k : Nat, k ≤ l0 ∧ s8 = .int .i64 k ∧ s7 = .int .i64 (16 * k + tot (ss.take k) : Nat)) (fun _ s8 => l0 - (intOf s8).toNat)
  case atStart => exact ⟨0, Nat.zero_le _, rfl, by simp [tot]⟩
  case round =>
    obtain ⟨k, hk, rfl, rfl⟩ := hrel
    by_cases hlt : k < l0
    · obtain ⟨x, s, rfl, hsk, hc⟩ := H0.out.get hlt
      have hnx := tot_next hsk
      have hle := tot_take_le ss (k + 1)
      have hle2 := HS.out
      rw [hnx] at hle
      obtain ⟨m, hm⟩ : ∃ m, tot (ss.take k) = m := ⟨_, rfl⟩
      rw [hm] at hle hnx ⊢
      have hms : m + s.size ≤ 1048576 := by omega
      have HX := Lib.hid hnx
      clear hnx hm hsk hle hle2
      go_wp2_with fail
      go_round
      case rel => exact ⟨k + 1, by omega, by go_num, by rw [HX.out]; go_num⟩
      case measure => simp [intOf]; omega
    · have he := tot_all (ss := ss) (k := k) (by have := HL.out; omega)
      obtain rfl : k = l0 := by omega
      rw [he]
      clear he
      go_wp2_with fail
      go_ret
      exact ⟨rfl, rfl⟩

/-! ### A clean path -/
theorem isB {c : UInt8} (n : UInt8) (k : Int) (hk : k = (n.toNat : Int)) (h : ((c.toNat : Int) == k) = true) : c = n := by
  rw [hk, beq_iff_eq] at h
  exact UInt8.toNat_inj.1 (by omega)
theorem notB {c : UInt8} (n : UInt8) (k : Int) (hk : k = (n.toNat : Int)) (h : ((c.toNat : Int) == k) = false) : c ≠ n := by
  rintro rfl
  rw [hk, beq_self_eq_true] at h
  cases h
/-- What has been read up to i: whole components, then part of one from st on. -/
structure Read (l : Bs) (st i : Nat) : Prop where
  one : 1 ≤ st
  le : st ≤ i
  top : i ≤ l.length + 1
  done : ∃ cs, Comps cs ∧ T cs = l.take (st - 1)
  sl : st ≤ l.length → l[st - 1]? = some 47
  fine : ∀ j c, st ≤ j → j < i → l[j]? = some c → c ≠ 47 ∧ c ≠ 92 ∧ c < 128
  last : i = l.length + 1 → st = l.length + 1
theorem Read.start {l : Bs} (h : l[0]? = some 47) : Read l 1 1 where
  one := Nat.le_refl _
  le := Nat.le_refl _
  top := by omega
  done := ⟨[], fun x hx => (by cases hx), rfl⟩
  sl := fun _ => h
  fine := fun j c h1 h2 => by omega
  last := fun h1 => by
    have := (List.getElem?_eq_some_iff.1 h).1
    omega
theorem Read.step {l : Bs} {st i : Nat} (h : Read l st i) (hi : i < l.length) {c : UInt8} (hc : l[i]? = some c) (h1 : c ≠ 47) (h2 : c ≠ 92) (h3 : c < 128) : Read l st (i + 1) where
  one := h.one
  le := Nat.le_succ_of_le h.le
  top := by omega
  done := h.done
  sl := h.sl
  fine := fun j d h4 h5 h6 => by
    by_cases e : j = i
    · subst e
      rw [hc] at h6
      cases h6
      exact ⟨h1, h2, h3⟩
    · exact h.fine j d h4 (by omega) h6
  last := fun h4 => by omega
theorem Read.comp {l : Bs} {st i : Nat} (h : Read l st i) (hi : i = l.length ∨ l[i]? = some 47) (h0 : (l.drop st).take (i - st) ≠ []) (h1 : (l.drop st).take (i - st) ≠ [46]) (h2 : (l.drop st).take (i - st) ≠ [46, 46]) : Read l (i + 1) (i + 1) where
  one := by omega
  le := Nat.le_refl _
  top := by
    rcases hi with h | h
    · omega
    · have := (List.getElem?_eq_some_iff.1 h).1
      omega
  done := by
    obtain ⟨cs, hc, ht⟩ := h.done
    have hil : i ≤ l.length := by
      rcases hi with h | h
      · omega
      · exact Nat.le_of_lt (List.getElem?_eq_some_iff.1 h).1
    have h1' := h.one
    have hle := h.le
    have hsl := h.sl (by omega)
    obtain ⟨hs1, hs2⟩ := List.getElem?_eq_some_iff.1 hsl
    refine ⟨cs ++ [(l.drop st).take (i - st)], ?_, ?_⟩
    · intro x hx
      rcases List.mem_append.1 hx with hx | hx
      · exact hc x hx
      · obtain rfl : x = (l.drop st).take (i - st) := by simpa using hx
        refine ⟨h0, h1, h2, fun c hcm => ?_⟩
        obtain ⟨j, hj⟩ := List.getElem?_of_mem hcm
        have hjl := (List.getElem?_eq_some_iff.1 hj).1
        rw [List.length_take, List.length_drop] at hjl
        rw [List.getElem?_take_of_lt (by omega), List.getElem?_drop] at hj
        exact h.fine _ c (by omega) (by omega) hj
    · rw [T_snoc, ht, Nat.add_sub_cancel]
      have e : l.take i = l.take (st - 1) ++ (l.drop (st - 1)).take (i - (st - 1)) := by
        have : i = (st - 1) + (i - (st - 1)) := by omega
        conv => lhs; rw [this, List.take_add]
      rw [e, List.drop_eq_getElem_cons hs1, hs2, show st - 1 + 1 = st by omega, show i - (st - 1) = (i - st) + 1 by omega, List.take_succ_cons]
  sl := fun h3 => by
    rcases hi with h | h
    · omega
    · simpa using h
  fine := fun j c h3 h4 => by omega
  last := fun h3 => by omega
theorem Read.all {l : Bs} {st i : Nat} (h : Read l st i) (hi : l.length < i) : ∃ cs, Comps cs ∧ l = T cs := by
  have h1 := h.last (by have := h.top; omega)
  obtain ⟨cs, hc, ht⟩ := h.done
  refine ⟨cs, hc, ?_⟩
  rw [ht, h1]
  simp
def CleanP (l : Bs) : Prop := ∃ cs, Comps cs ∧ l = D cs
theorem clean_of {cs : List Bs} {l : Bs} (hc : Comps cs) (h : l = T cs) (hl : l ≠ []) : CleanP l := ⟨cs, hc, by rw [D_T (fun e => hl (by rw [h, e]; rfl)), h]⟩
theorem piece_eq (s : ByteArray) (a b : Nat) : (s.extract a b).toList = (s.data.toList.drop a).take (b - a) := by rw [extract_S, S_toList]

theorem clean_root {p : ByteArray} (h : (p.toList == [47]) = true) : CleanP p.data.toList := by
  have := beq_iff_eq.1 h
  rw [Lib.toList_data] at this
  exact ⟨[], fun x hx => (by cases hx), this⟩

end Go.Proofs.YtcpaepfhjhcaoaaDoor
