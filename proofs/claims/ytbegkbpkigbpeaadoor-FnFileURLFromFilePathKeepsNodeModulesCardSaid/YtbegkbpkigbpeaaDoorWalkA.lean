/-
  The walk of the law that a file URL's path keeps its place inside node_modules; conditions: what the listed tables hold.
-/
import Derived.Test.YtbegkbpkigbpeaaDoorIns
import Derived.Test.YtbegkbpkigbpeaaDoorLia
import Derived.Test.YtbegkbpkigbpeaaDoorParts
namespace Go.Proofs.YtbegkbpkigbpeaaDoor
open Go.RowKit

def lenOf : Value → Nat
  | .string s => s.size
  | _ => 0
def InsEnd (l : List UInt8) (w : World) (e : Ending) (w' : World) : Prop := (∃ b : Bool, e = .returned (.bool b) ∧ (b = true ↔ Ins l)) ∧ Below w.heap.size w w'

theorem drop_size (s : ByteArray) (i : Nat) : (s.extract i s.size).data.toList = s.data.toList.drop i := by
  rw [extract_S, S_data, List.take_of_length_le (by rw [List.length_drop, ← Lib.size_eq]; exact Nat.le_refl _)]

set_option maxHeartbeats 4000000 in
set_option maxRecDepth 100000 in
theorem inside_any (s : ByteArray) (w : World) (hT : Tabs w) (hs : s.size ≤ 4294967000) : Calls Tryd.prog 6 #[.string s] w (InsEnd s.data.toList w) := by
  have HT := Lib.hid hT
  clear hT
  have hla := lia_any
  unfold CH at hla
  have HL := Lib.hid hla
  clear hla
  go_enter Tryd.func6, Tryd.ntmps6
  go_wp2_with fail
  go_loopw [0, 3, 4, 5] (fun s0 _ _ _ wx => ∃ t : ByteArray, s0 = .string t ∧ t.size ≤ s.size ∧ (Ins t.data.toList ↔ Ins s.data.toList) ∧ Below w.heap.size w wx) (fun s0 _ _ _ _ => lenOf s0)
  case atStart => exact ⟨s, rfl, Nat.le_refl _, Iff.rfl, Below.refl _ _⟩
  case round =>
    obtain ⟨t, rfl, ht, hins, hb⟩ := hrel
    have HI := Lib.hid (And.intro hins hb)
    clear hins hb
    go_wp2_with fail
    refine (HL.out t _ (HT.out.up HI.out.2) (by omega)).mono ?_
    rintro e w1 ⟨⟨r, rfl, hl⟩, hb1⟩
    have hbb := HI.out.2.trans (hb1.mono HI.out.2.size)
    rcases hl with ⟨rfl, hno⟩ | ⟨k, c, rfl, hc, hsep, hno⟩
    · have hn := ins_none hno
      clear hno
      go_wp2_with fail
      go_ret
      exact ⟨⟨false, rfl, ⟨fun h => (by cases h), fun h => absurd (HI.out.1.2 h) hn⟩⟩, hbb⟩
    · have hk := (List.getElem?_eq_some_iff.1 hc).1
      rw [← Lib.size_eq] at hk
      have hcut := ins_cut hc hsep hno
      have hbase := fun h => ins_base hc hsep h
      have H := Lib.hid (And.intro hcut hbase)
      clear hcut hbase hc hno
      have t1 : (0 : Int) ≤ (k : Int) := by omega
      have t2 : (k : Int) ≤ (t.size : Int) := by omega
      have t3 : (k : Int) + 1 ≤ (t.size : Int) := by omega
      have t4 : (0 : Int) ≤ (k : Int) + 1 := by omega
      have t5 : ((k : Int) == -1) = false := by rw [beq_eq_false_iff_ne]; omega
      have hd := drop_size t (k + 1)
      have htk := take_size t k
      have htk2 : (t.extract 0 k).size = k := by rw [Lib.size_eq, htk, List.length_take, ← Lib.size_eq]; omega
      cases hB : ((t.extract (k + 1) t.size).toList == [110, 111, 100, 101, 95, 109, 111, 100, 117, 108, 101, 115])
      · have hne : t.data.toList.drop (k + 1) ≠ NM := by
          intro e
          rw [Lib.toList_data, hd, e] at hB
          cases hB
        have HN := Lib.hid (And.intro hne (And.intro htk htk2))
        clear hne hd htk htk2
        go_wp2_with fail
        go_quiet (fail)
        go_wp2_with fail
        exact ⟨⟨_, rfl, by rw [HN.out.2.2]; omega, by rw [HN.out.2.1]; exact (H.out.1 HN.out.1).trans HI.out.1, hbb.trans ⟨rfl, rfl, rfl, Nat.le_refl _, fun _ _ => rfl⟩⟩, by show (t.extract 0 k).size < t.size; rw [HN.out.2.2]; exact hk⟩
      · have he : t.data.toList.drop (k + 1) = NM := by
          rw [Lib.toList_data, hd] at hB
          exact beq_iff_eq.1 hB
        have HN := Lib.hid he
        clear he hd htk htk2
        go_wp2_with fail
        go_quiet (fail)
        go_wp2_with fail
        go_ret
        exact ⟨⟨true, rfl, ⟨fun _ => HI.out.1.1 (H.out.2 HN.out), fun _ => rfl⟩⟩, hbb.trans ⟨rfl, rfl, rfl, Nat.le_refl _, fun _ _ => rfl⟩⟩

set_option maxHeartbeats 400000 in
theorem zz4_yes (s : ByteArray) (w : World) (hs : s.size ≤ 1048576) : Calls Tryd.prog 4 #[.string s] w fun e w' => e = .returned (.bool true) ∧ w = w' := by
  go_enter Tryd.func4, Tryd.ntmps4
  go_wp2
  go_ret
  exact ⟨rfl, rfl⟩
set_option maxHeartbeats 400000 in
theorem zz4_no (s : ByteArray) (w : World) (hs : 1048576 < s.size) : Calls Tryd.prog 4 #[.string s] w fun e w' => e = .returned (.bool false) ∧ w = w' := by
  go_enter Tryd.func4, Tryd.ntmps4
  go_wp2
  go_ret
  exact ⟨rfl, rfl⟩

set_option maxHeartbeats 2000000 in
set_option maxRecDepth 100000 in
theorem fnFileURLFromFilePathKeepsNodeModules_walk (s : ByteArray) (w : World) (_ : s.size ≤ maxLen) (hT : Tabs w) :
    Calls Tryd.prog 3 #[.string s] w fun e w' => e = .returned (.bool true) ∧ Below w.heap.size w w' := by
  by_cases hs : s.size ≤ 1048576
  · by_cases h5 : s.size ≤ 524288
    · have hul := upath_length s.data.toList
      rw [← Lib.size_eq] at hul
      have h1 := fun wx => parts_any s wx (by omega)
      have h2 := fun wx hx => inside_any (S (upath s.data.toList)) wx hx (by rw [S_size]; omega)
      have h3 := fun wx hx => inside_any (S (47 :: s.data.toList)) wx hx (by rw [S_size, List.length_cons, ← Lib.size_eq]; omega)
      rw [S_data] at h2 h3
      have hadd := run_add_S (P := Tryd.prog) ⟨#[47]⟩ s (by show 1 + _ ≤ _; omega)
      change ∀ wx, (Op.stringOp .add ⟨#[47]⟩ s).run Tryd.prog wx = .ok (.string (S (47 :: s.data.toList))) wx at hadd
      have H := Lib.hid (And.intro h1 (And.intro h2 (And.intro h3 (And.intro hT (And.intro (ins_upath s.data.toList) hadd)))))
      clear h1 h2 h3 hT hadd hul
      unfold parts at H
      go_enter Tryd.func3, Tryd.ntmps3
      go_wp2_with (go_at_call 4; refine (zz4_yes _ _ hs).mono ?_; rintro e w' ⟨rfl, rfl⟩)
      refine (H.out.1 _).mono ?_
      rintro e w1 ⟨rfl, hb1⟩
      have hadd := H.out.2.2.2.2.2
      go_wp2_with fail
      refine (H.out.2.1 _ (H.out.2.2.2.1.up hb1)).mono ?_
      rintro e w2 ⟨⟨b1, rfl, hi1⟩, hb2⟩
      have hb12 := hb1.trans (hb2.mono hb1.size)
      go_wp2_with fail
      refine (H.out.2.2.1 _ (H.out.2.2.2.1.up hb12)).mono ?_
      rintro e w3 ⟨⟨b2, rfl, hi2⟩, hb3⟩
      have hbe : b2 = b1 := by
        have := hi1.trans (H.out.2.2.2.2.1.trans hi2.symm)
        cases b1 <;> cases b2 <;> simp at this ⊢
      subst hbe
      have hbb := hb12.trans (hb3.mono hb12.size)
      clear hi1 hi2
      go_wp2_with fail
      go_ret
      exact ⟨by first | rfl | simp, hbb⟩
    · clear hT
      go_enter Tryd.func3, Tryd.ntmps3
      go_wp2_with (go_at_call 4; refine (zz4_yes _ _ hs).mono ?_; rintro e w' ⟨rfl, rfl⟩)
      go_ret
      exact ⟨rfl, Below.refl _ _⟩
  · clear hT
    go_enter Tryd.func3, Tryd.ntmps3
    go_wp2_with (go_at_call 4; refine (zz4_no _ _ (by omega)).mono ?_; rintro e w' ⟨rfl, rfl⟩)
    go_ret
    exact ⟨rfl, Below.refl _ _⟩

end Go.Proofs.YtbegkbpkigbpeaaDoor
