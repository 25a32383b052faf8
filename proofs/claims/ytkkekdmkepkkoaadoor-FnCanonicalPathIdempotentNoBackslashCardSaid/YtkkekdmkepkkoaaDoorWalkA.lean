/-
  The walks of both laws: canonicalising a path; conditions: what the listed tables hold.
-/
import Derived.Test.YtkkekdmkepkkoaaDoorLaid
import Derived.Test.YtkkekdmkepkkoaaDoorMdl
import Derived.Test.YtkkekdmkepkkoaaDoorLower
namespace Go.Proofs.YtkkekdmkepkkoaaDoor
open Go.RowKit

theorem flat_sub92 : ∀ l : List UInt8, (l.flatMap fun b => if b = 92 then [47] else [b]) = sub92 l
  | [] => rfl
  | c :: r => by
    rw [List.flatMap_cons, flat_sub92 r]
    unfold sub92
    rw [List.map_cons]
    split <;> rfl
theorem repl_sub92 (l : List UInt8) (n : Nat) (h : l.length ≤ n) : repl [92] [47] n l = sub92 l := by
  rw [repl_one 92 [47] n l h]
  exact flat_sub92 l

set_option maxHeartbeats 1000000 in
set_option maxRecDepth 100000 in
theorem canon_any (s : ByteArray) (w : World) (hT : Tabs w) (hs : s.size ≤ 1073741824) : Calls Tryd.prog 11 #[.string s] w fun e w' => e = .returned (.string (S (canon s.data.toList))) ∧ Below w.heap.size w w' := by
  have hl := mapD_length Lib.toLowerU s.data.toList
  rw [← Lib.size_eq] at hl
  change (Lib.toLowerD s.data.toList).length ≤ _ at hl
  have hlow := fun wx hx => Tryd.strings_ToLower_any s wx (by omega) (Tabs.up hT hx).1 (Tabs.up hT hx).2
  have hlow0 := hlow w (Below.refl _ _)
  obtain ⟨m, hm⟩ : ∃ m, Lib.toLowerD s.data.toList = m := ⟨_, rfl⟩
  rw [hm] at hl hlow0
  have hr := fun wx => replaceAll_any (S m) ⟨#[92]⟩ ⟨#[47]⟩ wx (by decide) (by decide) (by rw [S_size]; show _ * 2 ≤ _; omega) (by decide)
  have hv : canon s.data.toList = repl [92] [47] m.length m := by unfold canon; rw [hm, repl_sub92 m _ (Nat.le_refl _)]
  have hr2 : ∀ wx, Calls Tryd.prog 12 #[.string (S m), .string ⟨#[92]⟩, .string ⟨#[47]⟩] wx fun e w' => e = .returned (.string (S (canon s.data.toList))) ∧ Below wx.heap.size wx w' := by
    intro wx
    have := hr wx
    rw [S_size, S_data] at this
    rw [hv]
    exact this
  have H := Lib.hid (And.intro hlow0 hr2)
  clear hlow hlow0 hr hr2 hv hm hT
  go_enter Tryd.func11, Tryd.ntmps11
  go_wp2_with fail
  refine H.out.1.mono ?_
  rintro e w1 ⟨rfl, hb1⟩
  go_wp2_with fail
  refine (H.out.2 _).mono ?_
  rintro e w2 ⟨rfl, hb2⟩
  go_wp2_with fail
  go_ret
  exact ⟨rfl, hb1.trans (hb2.mono hb1.size)⟩

set_option maxHeartbeats 400000 in
theorem zcanon_any (s : ByteArray) (w : World) (hT : Tabs w) (hs : s.size ≤ 1073741824) : Calls Tryd.prog 6 #[.string s] w fun e w' => e = .returned (.string (S (canon s.data.toList))) ∧ Below w.heap.size w w' := by
  have H := Lib.hid (canon_any s w hT hs)
  clear hT
  go_enter Tryd.func6, Tryd.ntmps6
  go_wp2_with fail
  refine H.out.mono ?_
  rintro e w1 ⟨rfl, hb1⟩
  go_wp2_with fail
  go_ret
  exact ⟨rfl, hb1⟩

set_option maxHeartbeats 1000000 in
set_option maxRecDepth 100000 in
theorem fnCanonicalPathIdempotentNoBackslash_walk (s : ByteArray) (w : World) (_ : s.size ≤ maxLen) (hT : Tabs w) :
    Calls Tryd.prog 3 #[.string s] w fun e w' => e = .returned (.bool true) ∧ Below w.heap.size w w' := by
  by_cases hs : s.size ≤ 1048576
  · have hcl : (canon s.data.toList).length ≤ 4 * s.size := by
      have := mapD_length Lib.toLowerU s.data.toList
      rw [← Lib.size_eq] at this
      unfold canon sub92
      rw [List.length_map]
      exact this
    have h1 := zcanon_any s w hT (by omega)
    have h2 := fun wx hx => zcanon_any (S (canon s.data.toList)) wx (Tabs.up hT hx) (by rw [S_size]; omega)
    simp only [S_data, canon_idem] at h2
    have h92 : (92 : UInt8) ∉ (S (canon s.data.toList)).data.toList := by rw [S_data]; exact canon_no92 _
    have hts : (S (canon s.data.toList)).size ≤ 1099511627776 := by rw [S_size]; omega
    obtain ⟨t, ht⟩ : ∃ t, S (canon s.data.toList) = t := ⟨_, rfl⟩
    rw [ht] at h1 h2 h92 hts
    have h3 := fun wx => has_none t wx hts h92
    have H := Lib.hid (And.intro h1 (And.intro h2 h3))
    clear h1 h2 h3 h92 ht hcl hT
    go_enter Tryd.func3, Tryd.ntmps3
    go_wp2_with (go_at_call 5; refine (zz5_yes _ _ hs).mono ?_; rintro e w' ⟨rfl, rfl⟩)
    refine H.out.1.mono ?_
    rintro e w1 ⟨rfl, hb1⟩
    go_wp2_with fail
    refine (H.out.2.1 w1 hb1).mono ?_
    rintro e w2 ⟨rfl, hb2⟩
    go_wp2_with (go_at_call 7; refine (H.out.2.2 _).mono ?_; rintro e w' ⟨rfl, rfl⟩)
    go_ret
    exact ⟨rfl, hb1.trans (hb2.mono hb1.size)⟩
  · clear hT
    go_enter Tryd.func3, Tryd.ntmps3
    go_wp2_with (go_at_call 5; refine (zz5_no _ _ (by omega)).mono ?_; rintro e w' ⟨rfl, rfl⟩)
    go_ret
    exact ⟨rfl, Below.refl _ _⟩

theorem mdl_byte : ∀ i : Fin 128, (if Lib.lowerB (UInt8.ofNat i.val) = 92 then 47 else Lib.lowerB (UInt8.ofNat i.val)) = mdl (UInt8.ofNat i.val) := by decide
theorem canon_mdl (l : List UInt8) (h : ∀ b ∈ l, b.toNat < 128) : canon l = l.map mdl := by
  unfold canon sub92
  rw [Lib.toLowerD_ascii l h]
  unfold Lib.toLowerA
  rw [List.map_map]
  refine List.map_congr_left fun b hb => ?_
  have := mdl_byte ⟨b.toNat, h b hb⟩
  rw [UInt8.ofNat_toNat] at this
  exact this

set_option maxHeartbeats 1000000 in
set_option maxRecDepth 100000 in
theorem fnCanonicalPathASCIIModel_walk (s : ByteArray) (w : World) (_ : s.size ≤ maxLen) (hT : Tabs w) :
    Calls Tryd.prog 4 #[.string s] w fun e w' => e = .returned (.bool true) ∧ Below w.heap.size w w' := by
  by_cases hs : s.size ≤ 1048576
  · by_cases ha : ∀ b ∈ s.data.toList, b.toNat < 128
    · have h1 := zcanon_any s w hT (by omega)
      rw [canon_mdl _ ha] at h1
      have h0 := fun wx => ascii_yes s wx (by omega) ha
      have h2 := fun wx => model_any s wx hs
      obtain ⟨t, ht⟩ : ∃ t, S (s.data.toList.map mdl) = t := ⟨_, rfl⟩
      rw [ht] at h1 h2
      have H := Lib.hid (And.intro h1 (And.intro h2 h0))
      clear h0 h1 h2 ht ha hT
      go_enter Tryd.func4, Tryd.ntmps4
      go_wp2_with (first | (go_at_call 8; refine (zz8_yes _ _ hs).mono ?_; rintro e w' ⟨rfl, rfl⟩) | (go_at_call 9; refine (H.out.2.2 _).mono ?_; rintro e w' ⟨rfl, rfl⟩))
      refine H.out.1.mono ?_
      rintro e w1 ⟨rfl, hb1⟩
      go_wp2_with fail
      refine (H.out.2.1 w1).mono ?_
      rintro e w2 ⟨rfl, hb2⟩
      go_wp2_with fail
      go_ret
      exact ⟨rfl, hb1.trans (hb2.mono hb1.size)⟩
    · have h0 := Lib.hid (fun wx => ascii_no s wx (by omega) ha)
      clear hT ha
      go_enter Tryd.func4, Tryd.ntmps4
      go_wp2_with (first | (go_at_call 8; refine (zz8_yes _ _ hs).mono ?_; rintro e w' ⟨rfl, rfl⟩) | (go_at_call 9; refine (h0.out _).mono ?_; rintro e w' ⟨rfl, rfl⟩))
      go_ret
      exact ⟨rfl, Below.refl _ _⟩
  · clear hT
    go_enter Tryd.func4, Tryd.ntmps4
    go_wp2_with (go_at_call 8; refine (zz8_no _ _ (by omega)).mono ?_; rintro e w' ⟨rfl, rfl⟩)
    go_ret
    exact ⟨rfl, Below.refl _ _⟩

end Go.Proofs.YtkkekdmkepkkoaaDoor
