/-
  The walk of the law that the base name of a path outside the file system is what the model says; conditions: what the listed tables hold.
-/
import Derived.Test.YtejdbjfniepomaaDoorVst
import Derived.Test.YtejdbjfniepomaaDoorWalkB
namespace Go.Proofs.YtejdbjfniepomaaDoor
open Go.RowKit

set_option maxHeartbeats 8000000 in
set_option maxRecDepth 100000 in
theorem fnPathRelativeToOutbaseVirtualMatchesModel_walk (a b : ByteArray) (c : Bool) (w : World) (ha : a.size ≤ maxLen) (hb : b.size ≤ maxLen) (hT : Tabs w) :
    Calls Tryd.prog 3 #[.string a, .string b, .bool c] w fun e w' => e = .returned (.bool true) ∧ Below w.heap.size w w' := by
  have HT := Lib.hid hT
  have HZ := Lib.hid (zz5_any a b c w ha hb)
  clear hT ha hb
  by_cases h5 : a.size ≤ 524288 ∧ b.size ≤ 524288
  · obtain ⟨h5, h6⟩ := h5
    cases hF : (b.toList == [102, 105, 108, 101])
    · go_enter Tryd.func3, Tryd.ntmps3
      go_wp2_with fail
      refine HZ.out.mono ?_
      rintro e w' ⟨⟨z, rfl⟩, rfl⟩
      cases z
      · go_wp2_with fail
        go_ret
        exact ⟨rfl, Below.refl _ _⟩
      · go_wp2_with fail
        refine (stem_any a c _ (by omega)).mono ?_
        rintro e w' ⟨⟨x, rfl⟩ | ⟨x, rfl, hx, hcov, hno⟩, rfl⟩
        · go_wp2_with fail
          go_ret
          exact ⟨rfl, Below.refl _ _⟩
        · have HX := Lib.hid (And.intro hx (And.intro hcov hno))
          have hxs : x.size ≤ a.size := by
            rw [hx, S_size]
            unfold stemL
            have h1 : (cutDot (segL a.data.toList)).length ≤ (segL a.data.toList).length := by
              unfold cutDot
              split
              · exact Nat.le_refl _
              · rename_i r he
                have := (List.dropWhile_sublist (· != 46) (l := (segL a.data.toList).reverse)).length_le
                rw [he] at this
                simp at this ⊢
                omega
            have h2 : (segL a.data.toList).length ≤ a.data.toList.length := by
              unfold segL
              rw [List.length_reverse]
              have := (List.takeWhile_sublist (fun b => !sepB b) (l := a.data.toList.reverse)).length_le
              rwa [List.length_reverse] at this
            rw [Lib.size_eq]
            omega
          clear hx hcov hno
          go_wp2_with fail
          refine (virt_any a b c _ HT.out (by omega) hF).mono ?_
          rintro e w2 ⟨⟨y, rfl, hy, hyx⟩, hb2⟩
          have hyx2 : y = x := (hyx HX.out.2.1 HX.out.2.2).trans HX.out.1.symm
          subst hyx2
          have HB := Lib.hid hb2
          clear hyx hb2
          obtain ⟨N, hN⟩ : ∃ N, S (san y.data.toList) = N := ⟨_, rfl⟩
          have hm := fun wx => model_any y wx (by omega)
          rw [hN] at hm ⊢
          have HM := Lib.hid hm
          clear hm hN
          go_wp2_with fail
          refine (HM.out _).mono ?_
          rintro e w3 ⟨rfl, hb3⟩
          have hbb := HB.out.trans (hb3.mono HB.out.size)
          clear hb3
          go_wp2_with fail
          go_ret
          exact ⟨by first | rfl | simp, hbb⟩
    · go_enter Tryd.func3, Tryd.ntmps3
      go_wp2_with fail
      refine HZ.out.mono ?_
      rintro e w' ⟨⟨z, rfl⟩, rfl⟩
      cases z
      all_goals (
        go_wp2_with fail
        go_ret
        exact ⟨rfl, Below.refl _ _⟩)
  · by_cases h6 : a.size ≤ 524288
    · have h7 : ¬ b.size ≤ 524288 := fun h => h5 ⟨h6, h⟩
      clear h5
      go_enter Tryd.func3, Tryd.ntmps3
      go_wp2_with fail
      refine HZ.out.mono ?_
      rintro e w' ⟨⟨z, rfl⟩, rfl⟩
      cases z
      all_goals (
        go_wp2_with fail
        go_ret
        exact ⟨rfl, Below.refl _ _⟩)
    · clear h5
      go_enter Tryd.func3, Tryd.ntmps3
      go_wp2_with fail
      refine HZ.out.mono ?_
      rintro e w' ⟨⟨z, rfl⟩, rfl⟩
      cases z
      all_goals (
        go_wp2_with fail
        go_ret
        exact ⟨rfl, Below.refl _ _⟩)

end Go.Proofs.YtejdbjfniepomaaDoor
