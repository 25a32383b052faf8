/-
  The shim, and the walk of FnTargetResolvePatternSubstitutesOnce: it returns true for every input; conditions: the strings' sizes.
-/
import Derived.Test.YtkgdbbpgaibihaaGreatFmtBad
import Derived.Deep.CutBlock
import Derived.Deep.DeepCutAuto
namespace Go.Proofs.YtkgdbbpgaibihaaGreatFmt
open Go.RowKit

set_option maxHeartbeats 1000000 in
theorem shim_of (u t s r : ByteArray) (st : Int) (p i : Bool) (w : World)
    (h : ∀ w2, Below w.heap.size w w2 → Calls Tryz.prog 12 #[Qry, .string u, Ent t, .string s, .bool p, .bool i, .map none] w2 (Res r st w2)) :
    Calls Tryz.prog 8 #[.string u, .string t, .string s, .bool p, .bool i] w fun e w' => e = .returned (.tuple #[.string r, .int .u8 st]) ∧ Below w.heap.size w w' := by
  have H := Lib.hid h
  clear h
  go_enter Tryz.func8, Tryz.ntmps8
  go_wp2_with (first | (go_at_call 13; refine (entry_any t _).mono ?_; rintro e w2 ⟨rfl, hb2⟩) | (go_at_call 12; refine (H.out _ hb2).mono ?_; rintro e w3 ⟨⟨x, rfl⟩, hb3⟩; unfold Dbg))
  go_ret2
  have h2 := hb2.size
  have h3 := hb3.size
  exact ⟨rfl, (hb2.trans (hb3.mono h2)).alloc (by omega) _⟩

theorem has47 (s : ByteArray) (w : World) (hs : s.size ≤ 1099511627776) : Calls Tryz.prog 6 #[.string s, .int .u8 47] w fun e w' => e = .returned (.bool (memB s.data.toList 47)) ∧ w = w' := hasByte_any s 47 w hs
theorem has42 (s : ByteArray) (w : World) (hs : s.size ≤ 1099511627776) : Calls Tryz.prog 6 #[.string s, .int .u8 42] w fun e w' => e = .returned (.bool (memB s.data.toList 42)) ∧ w = w' := hasByte_any s 42 w hs
theorem free_not {l : List UInt8} (h : (!freeB l) = false) : Free l := (freeB_iff l).1 (by simpa using h)
theorem keep_of {q : ByteArray} (h1 : q.toList.isEmpty = false) (h2 : (q.toList == [46]) = false) (h3 : (q.toList == [46, 46]) = false) (h4 : memB q.data.toList 47 = false) : Keep q.data.toList := by
  rw [Lib.toList_data] at h1 h2 h3
  exact ⟨(fun e => by rw [e] at h1; cases h1), beq_eq_false_iff_ne.1 h2, beq_eq_false_iff_ne.1 h3, memB_not h4⟩

/-- A sum of two texts, by name. -/
theorem add_named (a b : ByteArray) (h : a.size + b.size ≤ 9223372036854775807) :
    ∃ c : ByteArray, c.data.toList = a.data.toList ++ b.data.toList ∧ c.size = a.size + b.size ∧ ∀ wx, (Op.stringOp .add a b).run Tryz.prog wx = .ok (.string c) wx :=
  ⟨S (a.data.toList ++ b.data.toList), S_data _, by rw [S_size, List.length_append, ← Lib.size_eq, ← Lib.size_eq], run_add_S a b h⟩

set_option maxHeartbeats 4000000 in
set_option maxRecDepth 100000 in
theorem fnTargetResolvePatternSubstitutesOnce_walk (q a b s : ByteArray) (i : Bool) (w : World) (hq : q.size ≤ maxLen) (ha : a.size ≤ maxLen) (hb : b.size ≤ maxLen) (hs : s.size ≤ maxLen) :
    Calls Tryz.prog 3 #[.string q, .string a, .string b, .string s, .bool i] w fun e w' => e = .returned (.bool true) ∧ Below w.heap.size w w' := by
  have HZ := Lib.hid (zz5_any q a b s i w hq ha hb hs)
  unfold maxLen at hq ha hb hs
  go_enter Tryz.func3, Tryz.ntmps3
  go_wp2_with fail
  refine HZ.out.mono ?_
  rintro e w1 ⟨⟨z, rfl⟩, rfl⟩
  clear HZ
  cases z
  · go_wp2_with fail
    go_ret
    exact ⟨rfl, Below.refl _ _⟩
  · by_cases hsum : q.size + a.size + b.size + s.size ≤ 1048576
    · go_upto_region 7 with fail
      go_cut [68] (fun v wx => (∃ z, v = .bool z ∧ (z = false → Keep q.data.toList ∧ 42 ∉ q.data.toList)) ∧ w = wx)
      case first =>
        as_aux_lemma =>
          cases h1 : q.toList.isEmpty
          · have Hh1 := Lib.hid h1
            cases h2 : (q.toList == [46])
            · have Hh2 := Lib.hid h2
              cases h3 : (q.toList == [46, 46])
              · have Hh3 := Lib.hid h3
                cases h4 : memB q.data.toList 47
                · have Hh4 := Lib.hid h4
                  clear h4
                  cases h5 : memB q.data.toList 42
                  · have Hh5 := Lib.hid h5
                    clear h5
                    go_wp2_with fail
                    refine (has47 q _ (by omega)).mono ?_
                    rintro e w' ⟨rfl, rfl⟩
                    rw [Hh4.out]
                    go_wp2_with fail
                    refine (has42 q _ (by omega)).mono ?_
                    rintro e w' ⟨rfl, rfl⟩
                    rw [Hh5.out]
                    go_wp2_with fail
                    go_meet
                    exact ⟨⟨_, rfl, fun _ => ⟨keep_of h1 h2 h3 Hh4.out, memB_not Hh5.out⟩⟩, rfl⟩
                  · have Hh5 := Lib.hid h5
                    clear h5
                    go_wp2_with fail
                    refine (has47 q _ (by omega)).mono ?_
                    rintro e w' ⟨rfl, rfl⟩
                    rw [Hh4.out]
                    go_wp2_with fail
                    refine (has42 q _ (by omega)).mono ?_
                    rintro e w' ⟨rfl, rfl⟩
                    rw [Hh5.out]
                    go_wp2_with fail
                    go_meet
                    exact ⟨⟨_, rfl, fun h => by cases h⟩, rfl⟩
                · have Hh4 := Lib.hid h4
                  clear h4
                  go_wp2_with fail
                  refine (has47 q _ (by omega)).mono ?_
                  rintro e w' ⟨rfl, rfl⟩
                  rw [Hh4.out]
                  go_wp2_with fail
                  go_meet
                  exact ⟨⟨_, rfl, fun h => by cases h⟩, rfl⟩
              · have Hh3 := Lib.hid h3
                go_wp2_with fail
                go_meet
                exact ⟨⟨_, rfl, fun h => by cases h⟩, rfl⟩
            · have Hh2 := Lib.hid h2
              go_wp2_with fail
              go_meet
              exact ⟨⟨_, rfl, fun h => by cases h⟩, rfl⟩
          · have Hh1 := Lib.hid h1
            go_wp2_with fail
            go_meet
            exact ⟨⟨_, rfl, fun h => by cases h⟩, rfl⟩
      case rest =>
        obtain ⟨⟨z, rfl, hkq⟩, rfl⟩ := hcut
        have HKQ := Lib.hid hkq
        clear hkq
        cases z
        · go_upto_region 9 with fail
          go_cut [82] (fun v wx => (∃ z, v = .bool z ∧ (z = false → Free a.data.toList ∧ 42 ∉ a.data.toList ∧ Free b.data.toList ∧ 42 ∉ b.data.toList)) ∧ w = wx)
          case first =>
            as_aux_lemma =>
              cases k1 : (!freeB a.data.toList)
              · have Hk1 := Lib.hid k1
                clear k1
                cases k2 : memB a.data.toList 42
                · have Hk2 := Lib.hid k2
                  clear k2
                  cases k3 : (!freeB b.data.toList)
                  · have Hk3 := Lib.hid k3
                    clear k3
                    cases k4 : memB b.data.toList 42
                    · have Hk4 := Lib.hid k4
                      clear k4
                      go_wp2_with fail
                      refine (hasSep_any a _ (by omega)).mono ?_
                      rintro e w' ⟨rfl, rfl⟩
                      rw [Hk1.out]
                      go_wp2_with fail
                      refine (has42 a _ (by omega)).mono ?_
                      rintro e w' ⟨rfl, rfl⟩
                      rw [Hk2.out]
                      go_wp2_with fail
                      refine (hasSep_any b _ (by omega)).mono ?_
                      rintro e w' ⟨rfl, rfl⟩
                      rw [Hk3.out]
                      go_wp2_with fail
                      refine (has42 b _ (by omega)).mono ?_
                      rintro e w' ⟨rfl, rfl⟩
                      rw [Hk4.out]
                      go_wp2_with fail
                      go_meet
                      exact ⟨⟨_, rfl, fun _ => ⟨free_not Hk1.out, memB_not Hk2.out, free_not Hk3.out, memB_not Hk4.out⟩⟩, rfl⟩
                    · have Hk4 := Lib.hid k4
                      clear k4
                      go_wp2_with fail
                      refine (hasSep_any a _ (by omega)).mono ?_
                      rintro e w' ⟨rfl, rfl⟩
                      rw [Hk1.out]
                      go_wp2_with fail
                      refine (has42 a _ (by omega)).mono ?_
                      rintro e w' ⟨rfl, rfl⟩
                      rw [Hk2.out]
                      go_wp2_with fail
                      refine (hasSep_any b _ (by omega)).mono ?_
                      rintro e w' ⟨rfl, rfl⟩
                      rw [Hk3.out]
                      go_wp2_with fail
                      refine (has42 b _ (by omega)).mono ?_
                      rintro e w' ⟨rfl, rfl⟩
                      rw [Hk4.out]
                      go_wp2_with fail
                      go_meet
                      exact ⟨⟨_, rfl, fun h => by cases h⟩, rfl⟩
                  · have Hk3 := Lib.hid k3
                    clear k3
                    go_wp2_with fail
                    refine (hasSep_any a _ (by omega)).mono ?_
                    rintro e w' ⟨rfl, rfl⟩
                    rw [Hk1.out]
                    go_wp2_with fail
                    refine (has42 a _ (by omega)).mono ?_
                    rintro e w' ⟨rfl, rfl⟩
                    rw [Hk2.out]
                    go_wp2_with fail
                    refine (hasSep_any b _ (by omega)).mono ?_
                    rintro e w' ⟨rfl, rfl⟩
                    rw [Hk3.out]
                    go_wp2_with fail
                    go_meet
                    exact ⟨⟨_, rfl, fun h => by cases h⟩, rfl⟩
                · have Hk2 := Lib.hid k2
                  clear k2
                  go_wp2_with fail
                  refine (hasSep_any a _ (by omega)).mono ?_
                  rintro e w' ⟨rfl, rfl⟩
                  rw [Hk1.out]
                  go_wp2_with fail
                  refine (has42 a _ (by omega)).mono ?_
                  rintro e w' ⟨rfl, rfl⟩
                  rw [Hk2.out]
                  go_wp2_with fail
                  go_meet
                  exact ⟨⟨_, rfl, fun h => by cases h⟩, rfl⟩
              · have Hk1 := Lib.hid k1
                clear k1
                go_wp2_with fail
                refine (hasSep_any a _ (by omega)).mono ?_
                rintro e w' ⟨rfl, rfl⟩
                rw [Hk1.out]
                go_wp2_with fail
                go_meet
                exact ⟨⟨_, rfl, fun h => by cases h⟩, rfl⟩
          case rest =>
            obtain ⟨⟨z, rfl, hab⟩, rfl⟩ := hcut
            have HAB := Lib.hid hab
            clear hab
            cases z
            · cases k5 : (!freeB s.data.toList)
              · have Hk5 := Lib.hid k5
                clear k5
                obtain ⟨hkp, h42⟩ := HKQ.out rfl
                obtain ⟨hfa, ha42, hfb, hb42⟩ := HAB.out rfl
                have hfs := free_not Hk5.out
                obtain ⟨U, lU, zU, aU⟩ := add_named ⟨#[47]⟩ q (by show 1 + q.size ≤ _; omega)
                obtain ⟨T1, lT1, zT1, aT1⟩ := add_named ⟨#[46, 47]⟩ a (by show 2 + a.size ≤ _; omega)
                obtain ⟨T2, lT2, zT2, aT2⟩ := add_named T1 ⟨#[42]⟩ (by rw [zT1]; show 2 + a.size + 1 ≤ _; omega)
                obtain ⟨T3, lT3, zT3, aT3⟩ := add_named T2 b (by rw [zT2, zT1]; show 2 + a.size + 1 + b.size ≤ _; omega)
                obtain ⟨V2, lV2, zV2, aV2⟩ := add_named U ⟨#[47]⟩ (by rw [zU]; show 1 + q.size + 1 ≤ _; omega)
                obtain ⟨V3, lV3, zV3, aV3⟩ := add_named V2 a (by rw [zV2, zU]; show 1 + q.size + 1 + a.size ≤ _; omega)
                obtain ⟨V4, lV4, zV4, aV4⟩ := add_named V3 s (by rw [zV3, zV2, zU]; show 1 + q.size + 1 + a.size + s.size ≤ _; omega)
                obtain ⟨V5, lV5, zV5, aV5⟩ := add_named V4 b (by rw [zV4, zV3, zV2, zU]; show 1 + q.size + 1 + a.size + s.size + b.size ≤ _; omega)
                have hres := fun (st : Int) (hst : st = if b.data.toList = [] then 4 else 3) => shim_of U T3 s V5 st true i w fun w2 _ =>
                  res_pat U T3 s V5 st q.data.toList a.data.toList b.data.toList i w2 (by rw [← Lib.size_eq, ← Lib.size_eq, ← Lib.size_eq]; exact hsum) (by rw [lU]; rfl)
                    (by rw [lT3, lT2, lT1]; show ([46, 47] ++ a.data.toList ++ [42]) ++ b.data.toList = _; simp) hkp h42 hfa ha42 hfb hb42 hfs
                    (eq_S (by rw [lV5, lV4, lV3, lV2, lU]; show ([47] ++ q.data.toList ++ [47] ++ a.data.toList ++ s.data.toList) ++ b.data.toList = _; simp)) hst
                have HRES := Lib.hid hres
                clear hres lU zU lT1 zT1 lT2 zT2 lT3 zT3 lV2 zV2 lV3 zV3 lV4 zV4 lV5 zV5 hkp h42 hfa ha42 hfb hb42 hfs
                cases hbe : b.toList.isEmpty
                · have h3 := HRES.out 3 (by rw [if_neg (fun e => by rw [Lib.toList_data, e] at hbe; cases hbe)])
                  have H3 := Lib.hid h3
                  clear h3
                  go_wp2_with fail
                  refine (hasSep_any s _ (by omega)).mono ?_
                  rintro e w' ⟨rfl, rfl⟩
                  rw [Hk5.out]
                  go_wp2_with fail
                  refine H3.out.mono ?_
                  rintro e w' ⟨rfl, hbw⟩
                  go_wp2_with fail
                  go_ret
                  exact ⟨rfl, hbw⟩
                · have h3 := HRES.out 4 (by rw [if_pos (by rw [Lib.toList_data] at hbe; exact List.isEmpty_iff.1 hbe)])
                  have H3 := Lib.hid h3
                  clear h3
                  go_wp2_with fail
                  refine (hasSep_any s _ (by omega)).mono ?_
                  rintro e w' ⟨rfl, rfl⟩
                  rw [Hk5.out]
                  go_wp2_with fail
                  refine H3.out.mono ?_
                  rintro e w' ⟨rfl, hbw⟩
                  go_wp2_with fail
                  go_ret
                  exact ⟨rfl, hbw⟩
              · have Hk5 := Lib.hid k5
                clear k5
                go_wp2_with fail
                refine (hasSep_any s _ (by omega)).mono ?_
                rintro e w' ⟨rfl, rfl⟩
                rw [Hk5.out]
                go_wp2_with fail
                go_ret
                exact ⟨rfl, Below.refl _ _⟩
            · go_wp2_with fail
              go_ret
              exact ⟨rfl, Below.refl _ _⟩
        · go_wp2_with fail
          go_ret
          exact ⟨rfl, Below.refl _ _⟩
    · go_wp2_with fail
      all_goals (go_ret; exact ⟨rfl, Below.refl _ _⟩)

end Go.Proofs.YtkgdbbpgaibihaaGreatFmt
