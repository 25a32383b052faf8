/-
  The contracts of the guard of clean rooted ASCII paths and of all guards together; conditions: those that each names.
-/
import Derived.Test.YtcpaepfhjhcaoaaDoorGrd
namespace Go.Proofs.YtcpaepfhjhcaoaaDoor
open Go.RowKit

theorem at_of {p : ByteArray} {k : Nat} (h : k < p.size) {c : UInt8} (e : p[k] = c) : p.data.toList[k]? = some c := by rw [Lib.data_getElem? p k h, e]
theorem len0 {c : ByteArray} (h : ((c.size : Int) == 0) = false) : c.data.toList ≠ [] := by
  intro e
  rw [Lib.size_eq, e] at h
  cases h
theorem ne46 {c : ByteArray} {l : Bs} (h : (c.toList == l) = false) : c.data.toList ≠ l := by
  rw [← Lib.toList_data]
  exact beq_eq_false_iff_ne.1 h
def ClnRel (p : ByteArray) (s4 s3 : Value) : Prop := ∃ st i : Nat, s3 = .int .i64 st ∧ s4 = .int .i64 i ∧ Read p.data.toList st i

set_option maxHeartbeats 2000000 in
theorem isClean_any (p : ByteArray) (w : World) (hp : p.size ≤ 1048576) : Calls Tryd.prog 15 #[.string p] w (Ans (CleanP p.data.toList) w) := by
  by_cases h0 : p.size = 0
  · have q0 : ((p.size : Int) == 0) = true := by rw [h0]; rfl
    clear h0
    go_enter Tryd.func15, Tryd.ntmps15
    go_wp2_with fail
    go_ret
    exact ⟨_, rfl, rfl, fun h => by cases h⟩
  have q0 : ((p.size : Int) == 0) = false := by rw [beq_eq_false_iff_ne]; omega
  have lt0 : 0 < p.size := by omega
  cases q1 : ((p[0].toNat : Int) == 47)
  · have q2 : ((p[0].toNat : Int) != 47) = true := by unfold bne; rw [q1]; rfl
    go_enter Tryd.func15, Tryd.ntmps15
    go_wp2_with fail
    go_ret
    exact ⟨_, rfl, rfl, fun h => by cases h⟩
  have q2 : ((p[0].toNat : Int) != 47) = false := by unfold bne; rw [q1]; rfl
  cases q3 : (p.toList == [47])
  · have lt1 : p.size - 1 < p.size := by omega
    cases q4 : ((p[p.size - 1].toNat : Int) == 47)
    · have HR := Lib.hid (Read.start (at_of lt0 (isB 47 47 rfl q1)))
      have HN : Hid (p.data.toList ≠ []) := Lib.hid (len0 q0)
      go_enter Tryd.func15, Tryd.ntmps15
      go_wp2_with fail
      clear q1 q2 q3 q4
      go_loop [3, 4] (fun s3 s4 => ClnRel p s4 s3) (fun _ s4 => p.size + 1 - (intOf s4).toNat)
      case atStart => exact ⟨1, 1, rfl, rfl, HR.out⟩
      case round =>
        obtain ⟨st, i, rfl, rfl, hr⟩ := hrel
        have hst := hr.le
        have htop := hr.top
        have hone := hr.one
        rw [← Lib.size_eq] at htop
        have HQ := Lib.hid hr
        clear hr
        by_cases hlt : i < p.size
        · have n1 : ((i : Int) == (p.size : Int)) = false := by rw [beq_eq_false_iff_ne]; omega
          cases r1 : ((p[i].toNat : Int) == 47)
          · have HX := Lib.hid r1
            cases r2 : decide ((128 : Int) ≤ p[i].toNat)
            · cases r3 : ((p[i].toNat : Int) == 92)
              · have HC := Lib.hid (HQ.out.step (by rw [← Lib.size_eq]; exact hlt) (at_of hlt rfl) (notB 47 47 rfl r1) (notB 92 92 rfl r3) (by
                  have := of_decide_eq_false r2
                  rw [UInt8.lt_iff_toNat_lt]
                  show p[i].toNat < 128
                  omega))
                have r4 := of_decide_eq_false r2
                clear r2
                go_wp2_with fail
                go_round
                case rel => exact ⟨st, i + 1, rfl, by go_num, HC.out⟩
                case measure => simp [intOf]; omega
              · have r4 := of_decide_eq_false r2
                clear r2
                go_wp2_with fail
                go_ret
                exact ⟨_, rfl, rfl, fun h => by cases h⟩
            · have r4 := of_decide_eq_true r2
              clear r2
              go_wp2_with fail
              go_ret
              exact ⟨_, rfl, rfl, fun h => by cases h⟩
          · obtain ⟨c, hc⟩ : ∃ c, p.extract st i = c := ⟨_, rfl⟩
            cases c0 : ((c.size : Int) == 0)
            · cases c1 : (c.toList == [46])
              · cases c2 : (c.toList == [46, 46])
                · have he : c.data.toList = (p.data.toList.drop st).take (i - st) := by rw [← hc, Lib.extract_data]
                  have HC := Lib.hid (HQ.out.comp (.inr (at_of hlt (isB 47 47 rfl r1))) (by rw [← he]; exact len0 c0) (by rw [← he]; exact ne46 c1) (by rw [← he]; exact ne46 c2))
                  clear he
                  go_wp2_with fail
                  go_round
                  case rel => exact ⟨i + 1, i + 1, by go_num, by go_num, HC.out⟩
                  case measure => simp [intOf]; omega
                · go_wp2_with fail
                  go_ret
                  exact ⟨_, rfl, rfl, fun h => by cases h⟩
              · go_wp2_with fail
                go_ret
                exact ⟨_, rfl, rfl, fun h => by cases h⟩
            · go_wp2_with fail
              go_ret
              exact ⟨_, rfl, rfl, fun h => by cases h⟩
        · by_cases hle : i ≤ p.size
          · obtain rfl : i = p.size := by omega
            obtain ⟨c, hc⟩ : ∃ c, p.extract st p.size = c := ⟨_, rfl⟩
            cases c0 : ((c.size : Int) == 0)
            · cases c1 : (c.toList == [46])
              · cases c2 : (c.toList == [46, 46])
                · have he : c.data.toList = (p.data.toList.drop st).take (p.size - st) := by rw [← hc, Lib.extract_data]
                  have HC := Lib.hid (HQ.out.comp (.inl (Lib.size_eq p)) (by rw [← he]; exact len0 c0) (by rw [← he]; exact ne46 c1) (by rw [← he]; exact ne46 c2))
                  clear he
                  go_wp2_with fail
                  go_round
                  case rel => exact ⟨p.size + 1, p.size + 1, by go_num, by go_num, HC.out⟩
                  case measure => simp [intOf]
                · go_wp2_with fail
                  go_ret
                  exact ⟨_, rfl, rfl, fun h => by cases h⟩
              · go_wp2_with fail
                go_ret
                exact ⟨_, rfl, rfl, fun h => by cases h⟩
            · go_wp2_with fail
              go_ret
              exact ⟨_, rfl, rfl, fun h => by cases h⟩
          · have HC := Lib.hid (HQ.out.all (by rw [← Lib.size_eq]; omega))
            go_wp2_with fail
            go_ret
            refine ⟨_, rfl, rfl, fun _ => ?_⟩
            obtain ⟨cs, h1, h2⟩ := HC.out
            exact clean_of h1 h2 HN.out
    · go_enter Tryd.func15, Tryd.ntmps15
      go_wp2_with fail
      go_ret
      exact ⟨_, rfl, rfl, fun h => by cases h⟩
  · have HC := Lib.hid (clean_root q3)
    go_enter Tryd.func15, Tryd.ntmps15
    go_wp2_with fail
    go_ret
    exact ⟨_, rfl, rfl, fun _ => HC.out⟩

theorem min_any (a b : Nat) (w : World) : Calls Tryd.prog 9 #[.int .i64 a, .int .i64 b] w fun e w' => e = .returned (.int .i64 (min a b : Nat)) ∧ w = w' := by
  by_cases h : a < b
  · go_enter Tryd.func9, Tryd.ntmps9
    go_wp2_with fail
    go_ret
    exact ⟨by rw [Nat.min_eq_left (by omega)]; rfl, rfl⟩
  · go_enter Tryd.func9, Tryd.ntmps9
    go_wp2_with fail
    go_ret
    exact ⟨by rw [Nat.min_eq_right (by omega)]; rfl, rfl⟩

/-- Up to k, each path that is marked is clean. -/
def CleanTo (ss : List ByteArray) (au : List Bool) (k : Nat) : Prop := ∀ i s, i < k → au[i]? = some true → ss[i]? = some s → CleanP s.data.toList
theorem CleanTo.next {ss : List ByteArray} {au : List Bool} {k : Nat} (h : CleanTo ss au k) {s : ByteArray} (hs : ss[k]? = some s) (hz : au[k]? = some true → CleanP s.data.toList) : CleanTo ss au (k + 1) := by
  intro i t hi ha ht
  by_cases e : i = k
  · subst e
    rw [hs] at ht
    injection ht with ht
    subst ht
    exact hz ha
  · exact h i t (by omega) ha ht
/-- What the guards let by. -/
structure Fit (ss : List ByteArray) (au : List Bool) : Prop where
  l0 : ss.length ≤ 4096
  l1 : au.length ≤ 4096
  tot : tot ss ≤ 1048576
  clean : CleanTo ss au (min ss.length au.length)

set_option maxHeartbeats 2000000 in
theorem fits_any (a0 a1 : Option Addr) (l0 c0 l1 c1 : Nat) (ss : List ByteArray) (au : List Bool) (x : Nat) (w : World) (h0 : InRow w a0 l0 c0 (ss.map Value.string)) (h1 : InRow w a1 l1 c1 (au.map Value.bool)) (hx : x ≤ 1048576) (ht : l0 + tot ss ≤ 1048576) :
    Calls Tryd.prog 6 #[.slice a0 l0 c0, .slice a1 l1 c1, .int .i64 x] w (Ans (Fit ss au) w) := by
  have hcap := h1.cap
  have hlen := h0.len
  have hlen1 := h1.len
  rw [List.length_map] at hlen hlen1
  have H0 := Lib.hid h0
  have H1 := Lib.hid h1
  have HL := Lib.hid (And.intro hlen hlen1)
  have HT := Lib.hid ht
  have l0b : l0 ≤ 1048576 := by omega
  have hm : tot ss ≤ 1048576 := by omega
  unfold maxLen at hcap
  obtain ⟨hc1, hc2⟩ := hcap
  clear h0 h1 hlen hlen1 ht
  by_cases b0 : l0 ≤ 4096
  · by_cases b1 : l1 ≤ 4096
    · go_enter Tryd.func6, Tryd.ntmps6
      go_wp2_with fail
      refine (strsBytes_any a0 l0 c0 ss _ H0.out HT.out).mono ?_
      rintro e w' ⟨rfl, rfl⟩
      obtain ⟨m, hmm⟩ : ∃ m, tot ss = m := ⟨_, rfl⟩
      rw [hmm] at hm ⊢
      have HM := Lib.hid hmm
      clear hmm
      by_cases b2 : 16 * l0 + m + l1 + x ≤ 1048576
      · go_wp2_with fail
        refine (min_any l0 l1 _).mono ?_
        rintro e w' ⟨rfl, rfl⟩
        go_wp2_with fail
        have hn0 : min l0 l1 ≤ l0 := Nat.min_le_left _ _
        have hn1 : min l0 l1 ≤ l1 := Nat.min_le_right _ _
        obtain ⟨n, hnn⟩ : ∃ n, min l0 l1 = n := ⟨_, rfl⟩
        rw [hnn] at hn0 hn1 ⊢
        have HNN := Lib.hid hnn
        clear hnn
        go_loop [8] (fun s8 => ∃ k : Nat, k ≤ n ∧ s8 = .int .i64 k ∧ CleanTo ss au k) (fun s8 => n - (intOf s8).toNat)
        case atStart => exact ⟨0, Nat.zero_le _, rfl, fun i s hi => by omega⟩
        case round =>
          obtain ⟨k, hk, rfl, hcl⟩ := hrel
          have HC := Lib.hid hcl
          clear hcl
          by_cases hlt : k < n
          · obtain ⟨y, s, rfl, hsk, hc⟩ := H0.out.get (show k < l0 by omega)
            obtain ⟨z, b, rfl, hbk, hd⟩ := H1.out.get (show k < l1 by omega)
            have hkl0 : k < l0 := by omega
            have hkl1 : k < l1 := by omega
            have HK := Lib.hid (And.intro hsk hbk)
            clear hsk hbk
            cases b
            · have HX := Lib.hid (HC.out.next HK.out.1 (fun e => by rw [HK.out.2] at e; cases e))
              go_wp2_with fail
              go_round
              case rel => exact ⟨k + 1, by omega, by go_num, HX.out⟩
              case measure => simp [intOf]; omega
            · have hsz : s.size ≤ 1048576 := by
                have h1 := tot_mem (List.mem_of_getElem? HK.out.1)
                have h2 := HM.out
                omega
              go_wp2_with fail
              refine (isClean_any s _ hsz).mono ?_
              rintro e w' ⟨b, rfl, rfl, hb⟩
              cases b
              · clear hb
                go_wp2_with fail
                go_ret
                exact ⟨_, rfl, rfl, fun h => by cases h⟩
              · have HX := Lib.hid (HC.out.next HK.out.1 (fun _ => hb rfl))
                clear hb
                go_wp2_with fail
                go_round
                case rel => exact ⟨k + 1, by omega, by go_num, HX.out⟩
                case measure => simp [intOf]; omega
          · obtain rfl : k = n := by omega
            go_wp2_with fail
            go_ret
            refine ⟨_, rfl, rfl, fun _ => ⟨by have := HL.out.1; omega, by have := HL.out.2; omega, by have := HM.out; omega, ?_⟩⟩
            rw [HL.out.1, HL.out.2, HNN.out]
            exact HC.out
      · go_wp2_with fail
        go_ret
        exact ⟨_, rfl, rfl, fun h => by cases h⟩
    · go_enter Tryd.func6, Tryd.ntmps6
      go_wp2_with fail
      go_ret
      exact ⟨_, rfl, rfl, fun h => by cases h⟩
  · go_enter Tryd.func6, Tryd.ntmps6
    go_wp2_with fail
    go_ret
    exact ⟨_, rfl, rfl, fun h => by cases h⟩
end Go.Proofs.YtcpaepfhjhcaoaaDoor
