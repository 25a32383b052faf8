/-
  The walk of FnTargetResolvePlainFileTable over whatever function answers fmt: it returns true for every input; conditions: the strings' sizes.
-/
import Derived.Test.YtkgdbbpgaibihaaGreatFmtWalkA
namespace Go.Proofs.YtkgdbbpgaibihaaGreatFmt
open Go.RowKit Go.Extern.Stop Go.Stop Go.Extern

theorem keep_bad {f : ByteArray} (h0 : f.toList.isEmpty = false) (hf : Free f.data.toList) (hb : badS f.data.toList = false) : Keep f.data.toList := by
  rw [Lib.toList_data] at h0
  unfold badS at hb
  simp only [Bool.or_eq_false_iff] at hb
  exact ⟨(fun e => by rw [e] at h0; cases h0), beq_eq_false_iff_ne.1 hb.1.1, beq_eq_false_iff_ne.1 hb.1.2, hf.not47⟩

set_option maxHeartbeats 4000000 in
set_option maxRecDepth 100000 in
theorem fnTargetResolvePlainFileTable_walk (F : Interp) (q f s : ByteArray) (i : Bool) (w : World) (hF : F.answers w.tape) (hq : q.size ≤ maxLen) (hf : f.size ≤ maxLen) (hs : s.size ≤ maxLen) :
    Calls Tryz.prog 4 #[.string q, .string f, .string s, .bool i] w fun e w' => e = .returned (.bool true) ∧ Below w.heap.size w w' := by
  have HF := Lib.hid hF
  clear hF
  have HZ := Lib.hid (zz9_any q f s i w hq hf hs)
  unfold maxLen at hq hf hs
  go_enter Tryz.func4, Tryz.ntmps4
  go_wp2_with fail
  refine HZ.out.mono ?_
  rintro e w1 ⟨⟨z, rfl⟩, rfl⟩
  clear HZ
  cases z
  · go_wp2_with fail
    go_ret
    exact ⟨rfl, Below.refl _ _⟩
  · by_cases hsum : q.size + f.size + s.size ≤ 1048576
    · go_upto_region 7 with fail
      go_cut [53] (fun v wx => (∃ z, v = .bool z ∧ (z = false → Keep q.data.toList)) ∧ w = wx)
      case first =>
        as_aux_lemma =>
          cases h1 : q.toList.isEmpty
          · have Hh1 := Lib.hid h1
            cases h2 : (q.toList == [46])
            · have Hh2 := Lib.hid h2
              cases h3 : (q.toList == [46, 46])
              · have Hh3 := Lib.hid h3
                cases h4 : memB q.data.toList 47
                · have Hh4 := Lib.hid h4
                  clear h4
                  go_wp2_with fail
                  refine (has47 q _ (by omega)).mono ?_
                  rintro e w' ⟨rfl, rfl⟩
                  rw [Hh4.out]
                  go_wp2_with fail
                  go_meet
                  exact ⟨⟨_, rfl, fun _ => keep_of h1 h2 h3 Hh4.out⟩, rfl⟩
                · have Hh4 := Lib.hid h4
                  clear h4
                  go_wp2_with fail
                  refine (has47 q _ (by omega)).mono ?_
                  rintro e w' ⟨rfl, rfl⟩
                  rw [Hh4.out]
                  go_wp2_with fail
                  go_meet
                  exact ⟨⟨_, rfl, fun h => by cases h⟩, rfl⟩
              · have Hh3 := Lib.hid h3
                go_wp2_with fail
                go_meet
                exact ⟨⟨_, rfl, fun h => by cases h⟩, rfl⟩
            · have Hh2 := Lib.hid h2
              go_wp2_with fail
              go_meet
              exact ⟨⟨_, rfl, fun h => by cases h⟩, rfl⟩
          · have Hh1 := Lib.hid h1
            go_wp2_with fail
            go_meet
            exact ⟨⟨_, rfl, fun h => by cases h⟩, rfl⟩
      case rest =>
        obtain ⟨⟨z, rfl, hkq⟩, rfl⟩ := hcut
        have HKQ := Lib.hid hkq
        clear hkq
        cases z
        · go_upto_region 9 with fail
          go_cut [59] (fun v wx => (∃ z, v = .bool z ∧ (z = false → f.toList.isEmpty = false ∧ Free f.data.toList)) ∧ w = wx)
          case first =>
            as_aux_lemma =>
              cases k1 : f.toList.isEmpty
              · have Hk1 := Lib.hid k1
                cases k2 : (!freeB f.data.toList)
                · have Hk2 := Lib.hid k2
                  clear k2
                  go_wp2_with fail
                  refine (hasSep_any f _ (by omega)).mono ?_
                  rintro e w' ⟨rfl, rfl⟩
                  rw [Hk2.out]
                  go_wp2_with fail
                  go_meet
                  exact ⟨⟨_, rfl, fun _ => ⟨Hk1.out, free_not Hk2.out⟩⟩, rfl⟩
                · have Hk2 := Lib.hid k2
                  clear k2
                  go_wp2_with fail
                  refine (hasSep_any f _ (by omega)).mono ?_
                  rintro e w' ⟨rfl, rfl⟩
                  rw [Hk2.out]
                  go_wp2_with fail
                  go_meet
                  exact ⟨⟨_, rfl, fun h => by cases h⟩, rfl⟩
              · have Hk1 := Lib.hid k1
                go_wp2_with fail
                go_meet
                exact ⟨⟨_, rfl, fun h => by cases h⟩, rfl⟩
          case rest =>
            obtain ⟨⟨z, rfl, hab⟩, rfl⟩ := hcut
            have HAB := Lib.hid hab
            clear hab
            cases z
            · have hkp := HKQ.out rfl
              obtain ⟨hfe, hff⟩ := HAB.out rfl
              obtain ⟨U, lU, zU, aU⟩ := add_named ⟨#[47]⟩ q (by show 1 + q.size ≤ _; omega)
              obtain ⟨T, lT, zT, aT⟩ := add_named ⟨#[46, 47]⟩ f (by show 2 + f.size ≤ _; omega)
              have lU : U.data.toList = 47 :: q.data.toList := lU
              have lT : T.data.toList = 46 :: 47 :: f.data.toList := lT
              have zT : T.size = 2 + f.size := zT
              have hT : T.size ≤ 1073741824 := by omega
              have HT := Lib.hid (And.intro lU (And.intro lT (And.intro hkp (And.intro hfe hff))))
              clear zT
              cases hse : s.toList.isEmpty
              · have hres := shim_of U T s T 7 false i w fun w2 _ => res_sub U T s i w2 hT hse (by
                  rw [lT]
                  exact suf_no (x := [46, 47]) (fun e => by rw [Lib.toList_data, e] at hfe; cases hfe) hff.not47)
                have HR := Lib.hid hres
                clear hres lU zU lT hkp hff
                go_wp2_with fail
                refine HR.out.mono ?_
                rintro e w' ⟨rfl, hbw⟩
                go_wp2_with fail
                go_ret
                exact ⟨rfl, hbw⟩
              · obtain rfl : s = ⟨#[]⟩ := by
                  have h := eq_S (s := s) (l := []) (by rw [Lib.toList_data] at hse; exact List.isEmpty_iff.1 hse)
                  exact h
                cases hbad : badS f.data.toList
                · obtain ⟨V2, lV2, zV2, aV2⟩ := add_named U ⟨#[47]⟩ (by rw [zU]; show 1 + q.size + 1 ≤ _; omega)
                  obtain ⟨V3, lV3, zV3, aV3⟩ := add_named V2 f (by rw [zV2, zU]; show 1 + q.size + 1 + f.size ≤ _; omega)
                  have hres := shim_of U T ⟨#[]⟩ V3 3 false i w fun w2 _ => res_plain U T V3 q.data.toList f.data.toList i w2 (by rw [← Lib.size_eq, ← Lib.size_eq]; omega) lU lT hkp hff (keep_bad hfe hff hbad) hbad
                    (eq_S (by rw [lV3, lV2, lU]; show ((47 :: q.data.toList) ++ [47]) ++ f.data.toList = _; simp [rsv]))
                  have HR := Lib.hid (And.intro hres hbad)
                  clear hres lU zU lT hkp hff lV2 zV2 lV3 zV3 hbad
                  go_wp2_with fail
                  refine HR.out.1.mono ?_
                  rintro e w' ⟨rfl, hbw⟩
                  go_wp2_with fail
                  refine (badSeg_any f _).mono ?_
                  rintro e w2 ⟨rfl, rfl⟩
                  rw [HR.out.2]
                  go_wp2_with fail
                  go_ret
                  exact ⟨rfl, hbw⟩
                · have hres := shim_of U T ⟨#[]⟩ T 9 false i w fun w2 hb2 => res_bad F U T f.data.toList i w2 (by rw [hb2.tape]; exact HF.out) (by rw [← Lib.size_eq]; omega) lT hff hbad
                  have HR := Lib.hid (And.intro hres hbad)
                  clear hres lU zU lT hkp hff hbad
                  go_wp2_with fail
                  refine HR.out.1.mono ?_
                  rintro e w' ⟨rfl, hbw⟩
                  go_wp2_with fail
                  refine (badSeg_any f _).mono ?_
                  rintro e w2 ⟨rfl, rfl⟩
                  rw [HR.out.2]
                  go_wp2_with fail
                  go_ret
                  exact ⟨rfl, hbw⟩
            · go_wp2_with fail
              go_ret
              exact ⟨rfl, Below.refl _ _⟩
        · go_wp2_with fail
          go_ret
          exact ⟨rfl, Below.refl _ _⟩
    · go_wp2_with fail
      all_goals (go_ret; exact ⟨rfl, Below.refl _ _⟩)

end Go.Proofs.YtkgdbbpgaibihaaGreatFmt
