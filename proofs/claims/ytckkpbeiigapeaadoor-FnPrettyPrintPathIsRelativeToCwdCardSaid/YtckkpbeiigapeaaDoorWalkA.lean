/-
  The contracts of prettyPrintPath over the mock file system, and the walk of the law that relative paths are kept; conditions: the sizes named.
-/
import Derived.Test.YtckkpbeiigapeaaDoorRel
namespace Go.Proofs.YtckkpbeiigapeaaDoor
open Go.RowKit

theorem way_len : ∀ (C P : List Bs), (J (way C P)).length ≤ 3 * C.length + (J P).length
  | [], P => by rw [way_nil]; omega
  | c :: C, [] => by
    rw [way_stop _ (by simp)]
    have h := congrArg List.length (ups_end (c :: C) (by simp))
    rw [Lib.repeatL_length, List.length_append] at h
    simp only [List.length_cons, List.length_nil] at h
    simp only [List.length_cons]
    omega
  | c :: C, p :: P => by
    by_cases e : c = p
    · rw [way_same e]
      have h1 := way_len C P
      have h2 := J_tail_le p P
      simp only [List.length_cons]
      omega
    · rw [way_part e]
      have h := congrArg List.length (ups (c :: C) p P (by simp))
      rw [List.length_append, Lib.repeatL_length] at h
      simp only [List.length_cons, List.length_nil] at h ⊢
      omega
theorem way_92 {C P : List Bs} (h2 : ∀ x ∈ P, Seg x) : ∀ x ∈ way C P, 92 ∉ x := by
  induction C generalizing P with
  | nil => rw [way_nil]; exact fun x hx => (h2 x hx).2.2.2.2
  | cons c C ih =>
    cases P with
    | nil =>
      rw [way_stop _ (by simp)]
      intro x hx
      obtain ⟨y, _, rfl⟩ := List.mem_map.1 hx
      decide
    | cons p P =>
      by_cases e : c = p
      · rw [way_same e]
        exact ih (fun x hx => h2 x (List.mem_cons_of_mem _ hx))
      · rw [way_part e]
        intro x hx
        rcases List.mem_append.1 hx with hx | hx
        · obtain ⟨y, _, rfl⟩ := List.mem_map.1 hx
          decide
        · exact (h2 x hx).2.2.2.2
theorem rel_92 {C P : List Bs} (h2 : ∀ x ∈ P, Seg x) : 92 ∉ relT C P := by
  unfold relT
  split
  · decide
  · exact no92_J _ (way_92 h2)
theorem rel_len (C P : List Bs) : (relT C P).length ≤ 3 * C.length + (J P).length + 1 := by
  unfold relT
  split
  · simp
  · have := way_len C P
    omega
theorem seg_len {C : List Bs} (h : ∀ x ∈ C, Seg x) (h0 : C ≠ []) : C.length ≤ (J C).length + 1 := by
  have h1 := count_J C h0 (seg_no47 h)
  have h2 := List.count_le_length (a := (47 : UInt8)) (l := J C)
  omega

theorem meth_cwd (b : Nat) (w : World) : (method 250 61 (.pointer (some ⟨b, 0, none⟩)) "Cwd").run Tryd.prog w = .ok (71, .pointer (some ⟨b, 0, none⟩)) w := by kernel_rfl
theorem meth_rel (b : Nat) (w : World) : (method 250 61 (.pointer (some ⟨b, 0, none⟩)) "Rel").run Tryd.prog w = .ok (81, .pointer (some ⟨b, 0, none⟩)) w := by kernel_rfl
theorem nil_rel (b : Nat) (w : World) : (nilAhead 250 61 (.pointer (some ⟨b, 0, none⟩)) "Rel").run Tryd.prog w = .ok (some false) w := by kernel_rfl
def Keeps (r : ByteArray) (w : World) (e : Ending) (w' : World) : Prop := e = .returned (.string r) ∧ Below w.heap.size w w'

set_option maxHeartbeats 2000000 in
set_option maxRecDepth 100000 in
theorem pretty_no (b : Nat) (C : List Bs) (p : ByteArray) (w : World) (hC : C ≠ []) (sC : ∀ x ∈ C, Seg x) (hp : p.data.toList.head? ≠ some 47) (h2 : w.cell? ⟨b, 2, none⟩ = some (.string (S (47 :: J C)))) (hk : w.cell? ⟨b, 4, none⟩ = some (.int .u8 0)) (zC : (J C).length ≤ 4194304) (zp : p.size ≤ 4194304) :
    Calls Tryd.prog 12 #[.iface 61 (.pointer (some ⟨b, 0, none⟩)), .string p] w (Keeps p w) := by
  have HR := Lib.hid (fun wx hh => rel_no b C p wx hC sC hp hh zC zp)
  have hbl := World.block_lt_of_cell? w _ hk
  have HU := Lib.hid (And.intro (fun (wx : World) (h : Below w.heap.size w wx) => (h.cell (p := ⟨b, 2, none⟩) hbl).trans h2) (fun (wx : World) (h : Below w.heap.size w wx) => (h.cell (p := ⟨b, 4, none⟩) hbl).trans hk))
  clear hbl
  have m1 := meth_cwd b
  have m2 := meth_rel b
  have m3 := nil_rel b
  clear hC sC hp zC zp
  go_enter Tryd.func12, Tryd.ntmps12
  go_wp2_with fail
  go_region_with (first | (go_at_call 71; refine (cwd_any b _ _ (HU.out.1 _ (Below.refl _ _).drew)).mono ?_; rintro e w1 ⟨rfl, hw1⟩; subst hw1) | (go_at_call 81; refine (HR.out _ (HU.out.2 _ (Below.refl _ _).drew)).mono ?_; rintro e w2 ⟨rfl, hb2⟩))
  all_goals (
    clear h2 hk m1 m2 m3
    go_wp2_with fail
    go_ret
    exact ⟨rfl, (Below.refl _ _).drew.trans hb2⟩)

set_option maxHeartbeats 2000000 in
set_option maxRecDepth 100000 in
theorem pretty_any (b : Nat) (C P : List Bs) (w : World) (hC : C ≠ []) (hP : P ≠ []) (sC : ∀ x ∈ C, Seg x) (sP : ∀ x ∈ P, Seg x) (h2 : w.cell? ⟨b, 2, none⟩ = some (.string (S (47 :: J C)))) (hk : w.cell? ⟨b, 4, none⟩ = some (.int .u8 0)) (zC : (J C).length ≤ 4194304) (zP : (J P).length ≤ 4194304) :
    Calls Tryd.prog 12 #[.iface 61 (.pointer (some ⟨b, 0, none⟩)), .string (S (47 :: J P))] w (Keeps (S (relT C P)) w) := by
  have hrel : ∀ wx, wx.cell? ⟨b, 4, none⟩ = some (.int .u8 0) → Calls Tryd.prog 81 #[.pointer (some ⟨b, 0, none⟩), .string (S (47 :: J C)), .string (S (47 :: J P))] wx (RelEnd C P wx) := by
    intro wx hh
    by_cases e : C = P
    · subst e
      exact rel_same b C wx hC sC hh zC
    · exact rel_any b C P wx hC hP sC sP hh zC zP e
  have HR := Lib.hid hrel
  have hrs : (S (relT C P)).size ≤ 67108864 := by
    have h1 := rel_len C P
    have h2 := seg_len sC hC
    rw [S_size]
    omega
  have hrp : repl [92] [47] (S (relT C P)).size (S (relT C P)).data.toList = relT C P := by
    rw [S_data, repl_one 92 [47] _ _ (by rw [S_size]; exact Nat.le_refl _)]
    exact flat_keep 92 [47] _ (rel_92 sP)
  have hra := fun wx => replaceAll_any (S (relT C P)) ⟨#[92]⟩ ⟨#[47]⟩ wx (by decide) (by decide) (by show _ * 2 ≤ _; omega) (by decide)
  have HA := Lib.hid (And.intro hrp hra)
  have hbl := World.block_lt_of_cell? w _ hk
  have HU := Lib.hid (And.intro (fun (wx : World) (h : Below w.heap.size w wx) => (h.cell (p := ⟨b, 2, none⟩) hbl).trans h2) (fun (wx : World) (h : Below w.heap.size w wx) => (h.cell (p := ⟨b, 4, none⟩) hbl).trans hk))
  have m1 := meth_cwd b
  have m2 := meth_rel b
  have m3 := nil_rel b
  clear hrel hC hP sC sP zC zP hrs hrp hra hbl
  go_enter Tryd.func12, Tryd.ntmps12
  go_wp2_with fail
  go_region_with (first | (go_at_call 71; refine (cwd_any b _ _ (HU.out.1 _ (Below.refl _ _).drew)).mono ?_; rintro e w1 ⟨rfl, hw1⟩; subst hw1) | (go_at_call 81; refine (HR.out _ (HU.out.2 _ (Below.refl _ _).drew)).mono ?_; rintro e w2 ⟨rfl, hb2⟩))
  all_goals (
    clear h2 hk m1 m2 m3
    go_wp2_with fail
    refine (HA.out.2 _).mono ?_
    rintro e w3 ⟨rfl, hb3⟩
    go_wp2_with fail
    go_ret
    refine ⟨?_, (Below.refl _ _).drew.trans (hb2.trans (hb3.mono hb2.size))⟩
    have h1 := HA.out.1
    exact congrArg (fun z => Ending.returned (.string (S z))) h1)

set_option maxHeartbeats 2000000 in
theorem zz8_no (C : List Bs) (p : ByteArray) (w : World) (hC : C ≠ []) (sC : ∀ x ∈ C, Seg x) (hp : p.data.toList.head? ≠ some 47) (zC : (J C).length ≤ 4194304) (zp : p.size ≤ 4194304) :
    Calls Tryd.prog 8 #[.string (S (47 :: J C)), .string p] w (Keeps p w) := by
  have HR := Lib.hid (fun b wx hh2 hh => pretty_no b C p wx hC sC hp hh2 hh zC zp)
  clear hC sC hp zC zp
  go_enter Tryd.func8, Tryd.ntmps8
  go_wp2_with fail
  refine (mock_any _ _).mono ?_
  rintro e w1 ⟨⟨b, rfl, h2, h4⟩, hb1⟩
  have HK := Lib.hid (And.intro h2 h4)
  clear h2 h4
  go_wp2_with fail
  refine (HR.out b _ HK.out.1 HK.out.2).mono ?_
  rintro e w2 ⟨rfl, hb2⟩
  go_wp2_with fail
  go_ret
  exact ⟨rfl, hb1.trans (hb2.mono hb1.size)⟩

set_option maxHeartbeats 2000000 in
theorem zz8_any (C P : List Bs) (w : World) (hC : C ≠ []) (hP : P ≠ []) (sC : ∀ x ∈ C, Seg x) (sP : ∀ x ∈ P, Seg x) (zC : (J C).length ≤ 4194304) (zP : (J P).length ≤ 4194304) :
    Calls Tryd.prog 8 #[.string (S (47 :: J C)), .string (S (47 :: J P))] w (Keeps (S (relT C P)) w) := by
  have HR := Lib.hid (fun b wx hh2 hh => pretty_any b C P wx hC hP sC sP hh2 hh zC zP)
  clear hC hP sC sP zC zP
  go_enter Tryd.func8, Tryd.ntmps8
  go_wp2_with fail
  refine (mock_any _ _).mono ?_
  rintro e w1 ⟨⟨b, rfl, h2, h4⟩, hb1⟩
  have HK := Lib.hid (And.intro h2 h4)
  clear h2 h4
  go_wp2_with fail
  refine (HR.out b _ HK.out.1 HK.out.2).mono ?_
  rintro e w2 ⟨rfl, hb2⟩
  go_wp2_with fail
  go_ret
  exact ⟨rfl, hb1.trans (hb2.mono hb1.size)⟩
end Go.Proofs.YtckkpbeiigapeaaDoor
