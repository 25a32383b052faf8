/-
  The contracts of the last and the first occurrence of a key, and counting a map's keys by a list; conditions: those that each names.
-/
import Derived.Test.YtkdkjcljdagakaaGreatFmtCan
import Derived.Test.YtkdkjcljdagakaaGreatFmtBmp
import Derived.Maps.Ext
namespace Go.Proofs.YtkdkjcljdagakaaGreatFmt
open Go.RowKit Go.Maps Go.Lib

theorem size_of_has {D : DataW Unit} (c : Canon D) {L : List Lit} (hn : L.Nodup) (h : ∀ k, has D k = true ↔ k ∈ L) : Maps.size D = L.length := by
  obtain ⟨es, rfl, hs, hk⟩ := c
  have h1 : (es.map Prod.fst).Nodup := by
    rw [List.nodup_iff_pairwise_ne, List.pairwise_map]
    exact apart_of_rising hs
  have h2 : ∀ k, k ∈ es.map Prod.fst ↔ k ∈ L := fun k => by
    rw [← h k, has_eq, List.any_eq_true, List.mem_map]
    constructor
    · rintro ⟨p, hp, rfl⟩
      exact ⟨p, hp, WideAt.sameKey_self (hk p hp)⟩
    · rintro ⟨p, hp, e⟩
      exact ⟨p, hp, WideAt.sameKey_eq e⟩
  rw [Maps.size_eq, ← ((List.perm_ext_iff_of_nodup h1 hn).2 h2).length_eq, List.length_map]

/-- Nothing behind i is s. -/
def Behind (ss : List ByteArray) (i : Nat) (s : ByteArray) (n : Nat) : Prop := ∀ j q, i < j → j < n → ss[j]? = some q → q ≠ s
def Ahead (ss : List ByteArray) (s : ByteArray) (n : Nat) : Prop := ∀ j q, j < n → ss[j]? = some q → q ≠ s
def Tells (P : Prop) (w : World) (e : Ending) (w' : World) : Prop := ∃ b : Bool, e = .returned (.bool b) ∧ Below w.heap.size w w' ∧ (b = true ↔ P)
theorem bytes_eq {a b : ByteArray} (h : (a.toList == b.toList) = true) : a = b := by
  rw [beq_iff_eq, Lib.toList_data, Lib.toList_data] at h
  rw [← Lib.mk_data a, ← Lib.mk_data b, h]
theorem bytes_ne {a b : ByteArray} (h : (a.toList == b.toList) = false) : a ≠ b := by
  rintro rfl
  simp at h

set_option maxHeartbeats 2000000 in
theorem last_any (a : Option Addr) (n cap : Nat) (ss : List ByteArray) (i : Nat) (s : ByteArray) (w : World) (h : InRow w a n cap (ss.map Value.string)) (hn : n ≤ 4096) (hi : ss[i]? = some s) :
    Calls Tryz.prog 17 #[.slice a n cap, .int .i64 i] w (Tells (Behind ss i s n) w) := by
  have hlen := h.len
  rw [List.length_map] at hlen
  have hin : i < n := by rw [← hlen]; exact (List.getElem?_eq_some_iff.1 hi).1
  obtain ⟨x, s', rfl, hs', hc⟩ := h.get hin
  obtain rfl : s' = s := by rw [hi] at hs'; exact (Option.some.inj hs').symm
  have H := Lib.hid h
  have HL := Lib.hid (And.intro hlen hi)
  clear h hlen hi hs'
  go_enter Tryz.func17, Tryz.ntmps17
  go_wp2_with fail
  clear hc
  go_loopw [5] (fun s5 wr => ∃ k : Nat, s5 = .int .i64 k ∧ i < k ∧ k ≤ n ∧ Behind ss i s' k ∧ Below w.heap.size w wr) (fun s5 _ => n - (intOf s5).toNat)
  case atStart => exact ⟨i + 1, by go_num, by omega, by omega, fun j q h1 h2 => by omega, Below.refl _ _⟩
  case round =>
    obtain ⟨k, rfl, hik, hkn, hb, hbw⟩ := hrel
    have HB := Lib.hid (And.intro hb hbw)
    have HI := H.out.up hbw
    clear hb hbw
    obtain ⟨x0, s0, hx0, hs0, hc⟩ := HI.get hin
    obtain rfl : x = x0 := Option.some.inj hx0
    obtain rfl : s' = s0 := by rw [HL.out.2] at hs0; exact Option.some.inj hs0
    clear hx0 hs0
    by_cases hlt : k < n
    · obtain ⟨x', t, hx, ht, hct⟩ := HI.get hlt
      clear HI
      obtain rfl : x = x' := Option.some.inj hx
      have HT := Lib.hid ht
      clear ht hx
      cases q : (t.toList == s'.toList)
      · go_wp2_with fail
        go_region
        all_goals
          go_wp2_with fail
          refine ⟨⟨k + 1, by go_num, by omega, by omega, fun j r h1 h2 h3 => ?_, HB.out.2.drew⟩, by simp [intOf]; omega⟩
          by_cases e : j = k
          · subst e
            rw [HT.out] at h3
            cases h3
            exact bytes_ne q
          · exact HB.out.1 j r h1 (by omega) h3
      · go_wp2_with fail
        go_region
        all_goals
          go_wp2_with fail
          go_ret
          refine ⟨false, rfl, HB.out.2.drew, ⟨fun h => (by cases h), fun h => ?_⟩⟩
          exact absurd (bytes_eq q) (h k t hik hlt HT.out)
    · obtain rfl : k = n := by omega
      go_wp2_with fail
      go_ret
      exact ⟨true, rfl, HB.out.2, ⟨fun _ => HB.out.1, fun _ => rfl⟩⟩

set_option maxHeartbeats 2000000 in
theorem first_any (a : Option Addr) (n cap : Nat) (ss : List ByteArray) (i : Nat) (s : ByteArray) (w : World) (h : InRow w a n cap (ss.map Value.string)) (hn : n ≤ 4096) (hi : ss[i]? = some s) :
    Calls Tryz.prog 14 #[.slice a n cap, .int .i64 i] w (Tells (Ahead ss s i) w) := by
  have hlen := h.len
  rw [List.length_map] at hlen
  have hin : i < n := by rw [← hlen]; exact (List.getElem?_eq_some_iff.1 hi).1
  obtain ⟨x, s', rfl, hs', hc⟩ := h.get hin
  obtain rfl : s' = s := by rw [hi] at hs'; exact (Option.some.inj hs').symm
  have H := Lib.hid h
  have HL := Lib.hid (And.intro hlen hi)
  clear h hlen hi hs'
  go_enter Tryz.func14, Tryz.ntmps14
  go_wp2_with fail
  clear hc
  go_loopw [5] (fun s5 wr => ∃ k : Nat, s5 = .int .i64 k ∧ k ≤ i ∧ Ahead ss s' k ∧ Below w.heap.size w wr) (fun s5 _ => i - (intOf s5).toNat)
  case atStart => exact ⟨0, rfl, by omega, fun j q h1 => by omega, Below.refl _ _⟩
  case round =>
    obtain ⟨k, rfl, hkn, hb, hbw⟩ := hrel
    have HB := Lib.hid (And.intro hb hbw)
    have HI := H.out.up hbw
    clear hb hbw
    obtain ⟨x0, s0, hx0, hs0, hc⟩ := HI.get hin
    obtain rfl : x = x0 := Option.some.inj hx0
    obtain rfl : s' = s0 := by rw [HL.out.2] at hs0; exact Option.some.inj hs0
    clear hx0 hs0
    by_cases hlt : k < i
    · have hkn2 : k < n := by omega
      obtain ⟨x', t, hx, ht, hct⟩ := HI.get hkn2
      clear HI
      obtain rfl : x = x' := Option.some.inj hx
      have HT := Lib.hid ht
      clear ht hx
      cases q : (t.toList == s'.toList)
      · go_wp2_with fail
        go_region
        all_goals
          go_wp2_with fail
          refine ⟨⟨k + 1, by go_num, by omega, fun j r h1 h3 => ?_, HB.out.2.drew⟩, by simp [intOf]; omega⟩
          by_cases e : j = k
          · subst e
            rw [HT.out] at h3
            cases h3
            exact bytes_ne q
          · exact HB.out.1 j r (by omega) h3
      · go_wp2_with fail
        go_region
        all_goals
          go_wp2_with fail
          go_ret
          refine ⟨false, rfl, HB.out.2.drew, ⟨fun h => (by cases h), fun h => ?_⟩⟩
          exact absurd (bytes_eq q) (h k t hlt HT.out)
    · obtain rfl : k = i := by omega
      go_wp2_with fail
      go_ret
      exact ⟨true, rfl, HB.out.2, ⟨fun _ => HB.out.1, fun _ => rfl⟩⟩
end Go.Proofs.YtkdkjcljdagakaaGreatFmt
