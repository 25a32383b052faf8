/-
  The contracts of zzIndexOf, zzDistinct, zzNameOK and zzBroadcastFits; conditions: those that each names.
-/
import Derived.Test.YtglchiomdojjoaaGreatFmtFit
import Derived.BigQuiet
namespace Go.Proofs.YtglchiomdojjoaaGreatFmt
open Go.RowKit

theorem bytes_eq {a b : ByteArray} (h : (a.toList == b.toList) = true) : a = b := by
  have e : a.toList = b.toList := by simpa using h
  rw [Lib.toList_data, Lib.toList_data] at e
  rw [← Lib.mk_data a, ← Lib.mk_data b, e]
theorem bytes_ne {a b : ByteArray} (h : (a.toList == b.toList) = false) : a ≠ b := by
  rintro rfl
  simp at h
def IxPost (ss : List ByteArray) (s : ByteArray) (w : World) (e : Ending) (w' : World) : Prop :=
  ((∃ j : Nat, e = .returned (.int .i64 j) ∧ ss[j]? = some s) ∨ (e = .returned (.int .i64 (-1)) ∧ s ∉ ss)) ∧ w = w'
set_option maxHeartbeats 2000000 in
set_option maxRecDepth 100000 in
theorem ixOf_any (a1 : Option Addr) (l1 c1 : Nat) (ss : List ByteArray) (s : ByteArray) (w : World) (h1 : InRow w a1 l1 c1 (ss.map Value.string)) (hl : l1 ≤ 1048576) :
    Calls Tryz.prog 20 #[.slice a1 l1 c1, .string s] w (IxPost ss s w) := by
  have hn := h1.len
  rw [List.length_map] at hn
  have HI := Lib.hid (And.intro h1 hn)
  clear h1 hn
  go_enter Tryz.func20, Tryz.ntmps20
  go_wp2_with fail
  go_loopw [5] (fun s4 wr => ∃ k : Nat, s4 = .int .i64 k ∧ k ≤ l1 ∧ (∀ j, j < k → ss[j]? ≠ some s) ∧ w = wr) (fun s4 _ => l1 - (intOf s4).toNat)
  case atStart => exact ⟨0, rfl, Nat.zero_le _, fun j hj => by omega, rfl⟩
  case round =>
    obtain ⟨k, rfl, hk, hno, rfl⟩ := hrel
    by_cases hlt : k < l1
    · obtain ⟨x, t, rfl, htk, hc⟩ := HI.out.1.get hlt
      have HK := Lib.hid (And.intro hno htk)
      clear hno htk
      cases hb : (t.toList == s.toList) with
      | true =>
        have hts := Lib.hid (bytes_eq hb)
        go_wp2_with fail
        go_ret
        refine ⟨.inl ⟨k, rfl, ?_⟩, rfl⟩
        rw [HK.out.2, hts.out]
      | false =>
        have hts := Lib.hid (bytes_ne hb)
        go_wp2_with fail
        go_roundw
        case rel => exact ⟨k + 1, by go_num, by omega, fun j hj => by
          by_cases e : j = k
          · subst e
            rw [HK.out.2]
            exact fun e => hts.out (Option.some.inj e)
          · exact HK.out.1 j (by omega), by first | rfl | trivial⟩
        case measure => simp [intOf]; omega
    · have HK := Lib.hid hno
      clear hno
      go_wp2_with fail
      go_ret
      refine ⟨.inr ⟨by first | rfl | trivial, fun hm => ?_⟩, rfl⟩
      obtain ⟨j, hj⟩ := List.getElem?_of_mem hm
      exact HK.out j (by have := (List.getElem?_eq_some_iff.1 hj).1; have := HI.out.2; omega) hj
/-- Only draws lie between. -/
def Drw (w w' : World) : Prop := ∃ n, w' = w.drewN n
/-- No two of the first n are the same. -/
def Apart (ss : List ByteArray) (n : Nat) : Prop := ∀ a b p q, a < b → b < n → ss[a]? = some p → ss[b]? = some q → p ≠ q
theorem apart_nodup {ss : List ByteArray} (h : Apart ss ss.length) : ss.Nodup := by
  rw [List.nodup_iff_pairwise_ne, List.pairwise_iff_getElem]
  intro i j hi hj hij
  exact h i j _ _ hij hj (List.getElem?_eq_getElem hi) (List.getElem?_eq_getElem hj)
set_option maxHeartbeats 4000000 in
set_option maxRecDepth 100000 in
theorem distinct_any (a1 : Option Addr) (l1 c1 : Nat) (ss : List ByteArray) (w : World) (h1 : InRow w a1 l1 c1 (ss.map Value.string)) (hl : l1 ≤ 1048576) :
    Calls Tryz.prog 18 #[.slice a1 l1 c1] w fun e w' => ∃ b : Bool, e = .returned (.bool b) ∧ Drw w w' ∧ (b = true → ss.Nodup) := by
  have hn := h1.len
  rw [List.length_map] at hn
  have HI := Lib.hid (And.intro h1 hn)
  clear h1 hn
  go_enter Tryz.func18, Tryz.ntmps18
  go_wp2_with fail
  go_loopw [3, 4] (fun s3 _ wr => ∃ i : Nat, s3 = .int .i64 i ∧ i ≤ l1 ∧ Apart ss i ∧ Drw w wr) (fun s3 _ _ => l1 - (intOf s3).toNat)
  case atStart => exact ⟨0, rfl, Nat.zero_le _, fun a b p q _ h => by omega, 0, rfl⟩
  case round =>
    obtain ⟨i, rfl, hi, hap, nd, rfl⟩ := hrel
    by_cases hlt : i < l1
    · obtain ⟨x, t, rfl, hti, hc⟩ := HI.out.1.get hlt
      have HT := Lib.hid (And.intro hap (And.intro hti hc))
      clear hap hti hc
      go_wp2_with fail
      go_loopw [4] (fun s4 wr => ∃ j : Nat, s4 = .int .i64 j ∧ j ≤ i ∧ (∀ a p, a < j → ss[a]? = some p → p ≠ t) ∧ Drw w wr) (fun s4 _ => i - (intOf s4).toNat)
      case atStart => exact ⟨0, rfl, Nat.zero_le _, fun a p h => by omega, nd, rfl⟩
      case round =>
        obtain ⟨j, rfl, hj, hno, nd2, rfl⟩ := hrel
        by_cases hji : j < i
        · obtain ⟨y, s, hy, hsj, hd⟩ := HI.out.1.get (i := j) (by omega)
          obtain rfl : x = y := Option.some.inj hy
          have hc' : w.cell? (x.add i) = some (.string t) := HT.out.2.2
          have hd' : w.cell? (x.add j) = some (.string s) := hd
          have HK := Lib.hid (And.intro hno hsj)
          clear hno hsj hd hy
          cases hb : (t.toList == s.toList) with
          | true =>
            go_wp2_with fail
            go_quiet (fail)
            go_wp2_with fail
            go_ret
            exact ⟨false, by first | rfl | trivial, ⟨nd2 + nq, by first | rfl | (rw [World.drewN_drewN]) | trivial⟩, fun h => by cases h⟩
          | false =>
            have hts := Lib.hid (bytes_ne hb)
            go_wp2_with fail
            go_quiet (fail)
            go_wp2_with fail
            go_roundw
            case rel => exact ⟨j + 1, by go_num, by omega, fun a p ha hp => by
              by_cases e : a = j
              · subst e
                rw [HK.out.2] at hp
                exact fun e => hts.out (by rw [← e, Option.some.inj hp])
              · exact HK.out.1 a p (by omega) hp, _, rfl⟩
            case measure => simp [intOf]; omega
        · obtain rfl : j = i := by omega
          have HK := Lib.hid hno
          clear hno
          go_wp2_with fail
          go_roundw
          case rel => exact ⟨j + 1, by go_num, by omega, fun a b p q hab hb hp hq => by
            by_cases e : b = j
            · subst e
              rw [HT.out.2.1] at hq
              rw [← Option.some.inj hq]
              exact HK.out a p hab hp
            · exact HT.out.1 a b p q hab (by omega) hp hq, _, rfl⟩
          case measure => simp [intOf]; omega
    · have HK := Lib.hid hap
      clear hap
      obtain rfl : i = l1 := by omega
      go_wp2_with fail
      go_ret
      exact ⟨true, rfl, ⟨_, rfl⟩, fun _ => apart_nodup (by rw [HI.out.2]; exact HK.out)⟩
end Go.Proofs.YtglchiomdojjoaaGreatFmt
