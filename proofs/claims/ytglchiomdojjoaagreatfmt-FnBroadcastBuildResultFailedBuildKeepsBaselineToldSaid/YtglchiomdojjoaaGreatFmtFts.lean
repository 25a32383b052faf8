/-
  The contracts of zzNameOK and zzBroadcastFits; conditions: those that each names.
-/
import Derived.Test.YtglchiomdojjoaaGreatFmtDst
namespace Go.Proofs.YtglchiomdojjoaaGreatFmt
open Go.RowKit

/-- A name: letters, digits, dots, hyphens, underscores; not empty, not "." or "..". -/
def NameS (s : ByteArray) : Prop := AllC NmC s ∧ s.toList.isEmpty = false ∧ (s.toList == [46]) = false ∧ (s.toList == [46, 46]) = false
set_option maxHeartbeats 4000000 in
set_option maxRecDepth 100000 in
theorem name_any (s : ByteArray) (w : World) (hs : s.size ≤ 1048576) : Calls Tryz.prog 17 #[.string s] w (Tel (NameS s) w) := by
  cases e0 : s.toList.isEmpty with
  | true =>
    go_enter Tryz.func17, Tryz.ntmps17
    go_wp2_with fail
    go_ret
    exact ⟨false, rfl, rfl, fun h => by cases h⟩
  | false =>
    cases e1 : (s.toList == [46]) with
    | true =>
      go_enter Tryz.func17, Tryz.ntmps17
      go_wp2_with fail
      go_ret
      exact ⟨false, rfl, rfl, fun h => by cases h⟩
    | false =>
      cases e2 : (s.toList == [46, 46]) with
      | true =>
        go_enter Tryz.func17, Tryz.ntmps17
        go_wp2_with fail
        go_ret
        exact ⟨false, rfl, rfl, fun h => by cases h⟩
      | false =>
        refine (name_mid s w hs e0 e1 e2).mono ?_
        rintro e w' ⟨b, rfl, hw, h⟩
        exact ⟨b, rfl, hw, fun hb => ⟨h hb, e0, e1, e2⟩⟩
structure Fits (q : ByteArray) (l1 l2 l3 l4 : Nat) (ss ts : List ByteArray) : Prop where
  e1 : l1 = l2
  e2 : l3 = l4
  b1 : l1 ≤ 4096
  b3 : l3 ≤ 4096
  pub : AllC PbC q
  n1 : ∀ s ∈ ss, NameS s
  n3 : ∀ s ∈ ts, NameS s
  d1 : ss.Nodup
  d3 : ts.Nodup
def FitPost (P : Prop) (w : World) (e : Ending) (w' : World) : Prop := ∃ b : Bool, e = .returned (.bool b) ∧ Drw w w' ∧ (b = true → P)
theorem mem_next {C : ByteArray → Prop} {ss : List ByteArray} {k : Nat} {s : ByteArray} (h : ss[k]? = some s) (ha : ∀ x ∈ ss.take k, C x) (hs : C s) : ∀ x ∈ ss.take (k + 1), C x := by
  intro x hx
  rw [List.take_add_one, h, List.mem_append] at hx
  rcases hx with hx | hx
  · exact ha x hx
  · simp at hx
    rw [hx]
    exact hs
set_option maxHeartbeats 8000000 in
set_option maxRecDepth 100000 in
theorem fits_any (q : ByteArray) (a1 : Option Addr) (l1 c1 : Nat) (ss : List ByteArray) (a2 : Option Addr) (l2 c2 : Nat) (a3 : Option Addr) (l3 c3 : Nat) (ts : List ByteArray) (a4 : Option Addr) (l4 c4 : Nat) (w : World) (hq : q.size ≤ 1048576)
    (h1 : InRow w a1 l1 c1 (ss.map Value.string)) (h3 : InRow w a3 l3 c3 (ts.map Value.string)) (hs : ∀ s ∈ ss, s.size ≤ 1048576) (ht : ∀ s ∈ ts, s.size ≤ 1048576) :
    Calls Tryz.prog 6 #[.string q, .slice a1 l1 c1, .slice a2 l2 c2, .slice a3 l3 c3, .slice a4 l4 c4] w (FitPost (Fits q l1 l2 l3 l4 ss ts) w) := by
  have hn1 := h1.len
  have hn3 := h3.len
  rw [List.length_map] at hn1 hn3
  have HI := Lib.hid (And.intro h1 (And.intro h3 (And.intro hs (And.intro ht (And.intro hn1 hn3)))))
  clear h1 h3 hs ht hn1 hn3
  by_cases e1 : l1 = l2
  · by_cases e2 : l3 = l4
    · by_cases b1 : l1 ≤ 4096
      · by_cases b3 : l3 ≤ 4096
        · have HE := Lib.hid (And.intro e1 e2)
          have g1 : ((l1 : Int) != (l2 : Int)) = false := by simp [e1]
          have g2 : ((l3 : Int) != (l4 : Int)) = false := by simp [e2]
          have u1 : decide ((4096 : Int) < (l1 : Int)) = false := by simp; omega
          have u3 : decide ((4096 : Int) < (l3 : Int)) = false := by simp; omega
          clear e1 e2
          go_enter Tryz.func6, Tryz.ntmps6
          go_wp2_with fail
          refine (public_any q w hq).mono ?_
          rintro e w' ⟨b, rfl, hw, hb⟩
          obtain rfl := hw
          cases b with
          | false =>
            go_wp2_with fail
            go_ret
            exact ⟨false, rfl, ⟨0, rfl⟩, fun h => by cases h⟩
          | true =>
            have HQ := Lib.hid (hb rfl)
            clear hb
            go_wp2_with fail
            go_loopw [11] (fun s11 wr => ∃ k : Nat, s11 = .int .i64 k ∧ k ≤ l1 ∧ (∀ s ∈ ss.take k, NameS s) ∧ w = wr) (fun s11 _ => l1 - (intOf s11).toNat)
            case atStart => exact ⟨0, rfl, Nat.zero_le _, fun s h => by simp at h, rfl⟩
            case round =>
              obtain ⟨k, rfl, hk, ha, rfl⟩ := hrel
              by_cases hlt : k < l1
              · obtain ⟨x, s, rfl, hsk, hc⟩ := HI.out.1.get hlt
                have hsz := HI.out.2.2.1 s (List.mem_of_getElem? hsk)
                have hna := name_any s w hsz
                have HK := Lib.hid (And.intro ha (And.intro hsk hna))
                clear ha hsk hsz hna
                go_wp2_with fail
                refine HK.out.2.2.mono ?_
                rintro e w' ⟨b, rfl, hw, hb⟩
                obtain rfl := hw
                cases b with
                | false =>
                  go_wp2_with fail
                  go_ret
                  exact ⟨false, rfl, ⟨0, rfl⟩, fun h => by cases h⟩
                | true =>
                  have HN := Lib.hid (hb rfl)
                  clear hb
                  go_wp2_with fail
                  go_roundw
                  case rel => exact ⟨k + 1, by go_num, by omega, mem_next HK.out.2.1 HK.out.1 HN.out, by first | rfl | trivial⟩
                  case measure => simp [intOf]; omega
              · obtain rfl : k = l1 := by omega
                rw [List.take_of_length_le (by have := HI.out.2.2.2.2.1; omega)] at ha
                have HA := Lib.hid ha
                clear ha
                go_wp2_with fail
                go_loopw [12] (fun s12 wr => ∃ k : Nat, s12 = .int .i64 k ∧ k ≤ l3 ∧ (∀ s ∈ ts.take k, NameS s) ∧ w = wr) (fun s12 _ => l3 - (intOf s12).toNat)
                case atStart => exact ⟨0, rfl, Nat.zero_le _, fun s h => by simp at h, rfl⟩
                case round =>
                  obtain ⟨k2, rfl, hk2, ha, rfl⟩ := hrel
                  by_cases hlt2 : k2 < l3
                  · obtain ⟨x, s, rfl, hsk, hc⟩ := HI.out.2.1.get hlt2
                    have hsz := HI.out.2.2.2.1 s (List.mem_of_getElem? hsk)
                    have hna := name_any s w hsz
                    have HK := Lib.hid (And.intro ha (And.intro hsk hna))
                    clear ha hsk hsz hna
                    go_wp2_with fail
                    refine HK.out.2.2.mono ?_
                    rintro e w' ⟨b, rfl, hw, hb⟩
                    obtain rfl := hw
                    cases b with
                    | false =>
                      go_wp2_with fail
                      go_ret
                      exact ⟨false, rfl, ⟨0, rfl⟩, fun h => by cases h⟩
                    | true =>
                      have HN := Lib.hid (hb rfl)
                      clear hb
                      go_wp2_with fail
                      go_roundw
                      case rel => exact ⟨k2 + 1, by go_num, by omega, mem_next HK.out.2.1 HK.out.1 HN.out, by first | rfl | trivial⟩
                      case measure => simp [intOf]; omega
                  · obtain rfl : k2 = l3 := by omega
                    rw [List.take_of_length_le (by have := HI.out.2.2.2.2.2; omega)] at ha
                    have HB := Lib.hid ha
                    clear ha
                    have d1 := distinct_any a1 k c1 ss w HI.out.1 (by omega)
                    have d3 := fun nd => distinct_any a3 k2 c3 ts (w.drewN nd) HI.out.2.1 (by omega)
                    go_wp2_with fail
                    refine d1.mono ?_
                    rintro e w' ⟨b, rfl, ⟨nd, rfl⟩, hb⟩
                    cases b with
                    | false =>
                      go_wp2_with fail
                      go_ret
                      exact ⟨false, rfl, ⟨_, rfl⟩, fun h => by cases h⟩
                    | true =>
                      have HD := Lib.hid (hb rfl)
                      clear hb
                      go_wp2_with fail
                      refine (d3 nd).mono ?_
                      rintro e w' ⟨b, rfl, ⟨nd2, rfl⟩, hb⟩
                      have HD3 := Lib.hid hb
                      clear hb
                      go_wp2_with fail
                      go_ret
                      exact ⟨b, by first | rfl | trivial, ⟨nd + nd2, by first | rfl | (rw [World.drewN_drewN]) | trivial⟩, fun h => ⟨HE.out.1, HE.out.2, b1, b3, HQ.out, HA.out, HB.out, HD.out, HD3.out h⟩⟩
        · have f1 : ((l1 : Int) != (l2 : Int)) = false := by simp [e1]
          have f2 : ((l3 : Int) != (l4 : Int)) = false := by simp [e2]
          go_enter Tryz.func6, Tryz.ntmps6
          go_wp2_with fail
          all_goals
            go_ret
            exact ⟨false, rfl, ⟨0, rfl⟩, fun h => by cases h⟩
      · have f1 : ((l1 : Int) != (l2 : Int)) = false := by simp [e1]
        have f2 : ((l3 : Int) != (l4 : Int)) = false := by simp [e2]
        go_enter Tryz.func6, Tryz.ntmps6
        go_wp2_with fail
        all_goals
          go_ret
          exact ⟨false, rfl, ⟨0, rfl⟩, fun h => by cases h⟩
    · have f2 : ((l3 : Int) != (l4 : Int)) = true := by simp; omega
      have f1 : ((l1 : Int) != (l2 : Int)) = false := by simp [e1]
      go_enter Tryz.func6, Tryz.ntmps6
      go_wp2_with fail
      all_goals
        go_ret
        exact ⟨false, rfl, ⟨0, rfl⟩, fun h => by cases h⟩
  · have f2 : ((l1 : Int) != (l2 : Int)) = true := by simp; omega
    go_enter Tryz.func6, Tryz.ntmps6
    go_wp2_with fail
    all_goals
      go_ret
      exact ⟨false, rfl, ⟨0, rfl⟩, fun h => by cases h⟩
end Go.Proofs.YtglchiomdojjoaaGreatFmt
