/-
  The contracts of the mock file system's Rel at paths of valid segments, at a path that is not rooted, and of what it calls; conditions: the sizes that each names.
-/
import Derived.Test.YtckkpbeiigapeaaDoorMck
import Derived.Test.YtckkpbeiigapeaaDoorShelf
import Derived.Laws.Concat
import Derived.BigQuiet
import Derived.Deep.QuietTactic
namespace Go.Proofs.YtckkpbeiigapeaaDoor
open Go.RowKit

theorem index47 (l : Bs) : (Lib.indexByte l 47 = -1 ∧ spl l = (l, [])) ∨ ∃ i : Nat, Lib.indexByte l 47 = (i : Int) ∧ i < l.length ∧ spl l = (l.take i, l.drop (i + 1)) := by
  rcases index1 47 l with ⟨h, hn⟩ | ⟨a, b, rfl, hn, h⟩
  · rw [Lib.index_one] at h
    exact .inl ⟨h, spl_none hn⟩
  · rw [Lib.index_one] at h
    refine .inr ⟨a.length, h, by simp, ?_⟩
    rw [spl_at hn]
    simp

set_option maxHeartbeats 1000000 in
theorem split_any (s : ByteArray) (w : World) (hs : s.size ≤ 1073741824) :
    Calls Tryd.prog 85 #[.string s] w fun e w' => e = .returned (.tuple #[.string (S (spl s.data.toList).1), .string (S (spl s.data.toList).2)]) ∧ Below w.heap.size w w' := by
  rcases index47 s.data.toList with ⟨h, hn⟩ | ⟨i, h, hlt, hn⟩
  · have HX := Lib.hid h
    have HN := Lib.hid hn
    clear h hn
    go_enter Tryd.func85, Tryd.ntmps85
    go_wp2_with fail
    refine (Tryd.strings_IndexByte s 47 _).mono ?_
    rintro e w' ⟨rfl, rfl⟩
    rw [show (47 : Int).toNat.toUInt8 = 47 from rfl, HX.out]
    go_wp2_with fail
    go_ret2
    refine ⟨?_, Below.refl _ _⟩
    rw [HN.out, S_L]
    rfl
  · have HX := Lib.hid h
    have HN := Lib.hid hn
    rw [← Lib.size_eq] at hlt
    have q1 : ((i : Int) == -1) = false := by rw [beq_eq_false_iff_ne]; omega
    have q2 : ((i : Int) != -1) = true := by unfold bne; rw [q1]; rfl
    clear h hn
    go_enter Tryd.func85, Tryd.ntmps85
    go_wp2_with fail
    refine (Tryd.strings_IndexByte s 47 _).mono ?_
    rintro e w' ⟨rfl, rfl⟩
    rw [show (47 : Int).toNat.toUInt8 = 47 from rfl, HX.out]
    go_wp2_with fail
    go_region
    go_wp2_with fail
    go_ret2
    refine ⟨?_, (Below.refl _ _).drew⟩
    rw [HN.out, extract_S, extract_S, List.drop_zero, Nat.sub_zero]
    rw [List.take_of_length_le (i := s.size - (i + 1)) (by rw [List.length_drop, ← Lib.size_eq]; exact Nat.le_refl _)]
    rfl

theorem split_J (x : Bs) (r : List Bs) (w : World) (h : 47 ∉ x) (hs : (J (x :: r)).length ≤ 1073741824) :
    Calls Tryd.prog 85 #[.string (S (J (x :: r)))] w fun e w' => e = .returned (.tuple #[.string (S x), .string (S (J r))]) ∧ Below w.heap.size w w' := by
  have := split_any (S (J (x :: r))) w (by rw [S_size]; exact hs)
  rw [S_data, spl_J x r h] at this
  exact this
theorem split_nil (w : World) : Calls Tryd.prog 85 #[.string (S (J []))] w fun e w' => e = .returned (.tuple #[.string (S []), .string (S [])]) ∧ Below w.heap.size w w' := by
  have := split_any (S (J [])) w (by rw [S_size]; decide)
  rw [S_data] at this
  exact this

theorem ext_one (s : ByteArray) (k : Nat) (h : k < s.size) : (s.extract k (k + 1)).toList = [s.data.toList[k]'(by rw [← Lib.size_eq]; exact h)] := by
  have h' : k < s.data.toList.length := by rw [← Lib.size_eq]; exact h
  rw [extract_S, S_toList, show k + 1 - k = 1 by omega, List.drop_eq_getElem_cons h', List.take_succ_cons, List.take_zero]
theorem count_yes {s : ByteArray} {k : Nat} (h : k < s.size) (hp : ((s.extract k (k + 1)).toList == [47]) = true) : (s.data.toList.take (k + 1)).count 47 = (s.data.toList.take k).count 47 + 1 := by
  have h' : k < s.data.toList.length := by rw [← Lib.size_eq]; exact h
  rw [ext_one s k h] at hp
  have e : s.data.toList[k] = 47 := by simpa using hp
  rw [List.take_succ_eq_append_getElem h', List.count_append, e]
  simp
theorem count_no {s : ByteArray} {k : Nat} (h : k < s.size) (hp : ((s.extract k (k + 1)).toList == [47]) = false) : (s.data.toList.take (k + 1)).count 47 = (s.data.toList.take k).count 47 := by
  have h' : k < s.data.toList.length := by rw [← Lib.size_eq]; exact h
  rw [ext_one s k h] at hp
  have e : s.data.toList[k] ≠ 47 := by simpa using hp
  rw [List.take_succ_eq_append_getElem h', List.count_append, List.count_singleton, if_neg (by simpa using e)]
  rfl

set_option maxHeartbeats 1000000 in
theorem count_any (s : ByteArray) (w : World) (hs : s.size ≤ 1073741824) :
    Calls Tryd.prog 87 #[.string s, .string ⟨#[47]⟩] w fun e w' => e = .returned (.int .i64 (s.data.toList.count 47 : Nat)) ∧ w = w' := by
  go_enter Tryd.func87, Tryd.ntmps87
  go_wp2_with fail
  go_loop [5, 6] (fun n i => ∃ k : Nat, k ≤ s.size ∧ i = .int .i64 k ∧ n = .int .i64 ((s.data.toList.take k).count 47 : Nat)) (fun _ i => s.size - (intOf i).toNat)
  case atStart => exact ⟨0, Nat.zero_le _, rfl, rfl⟩
  case round =>
    obtain ⟨k, hk, rfl, rfl⟩ := hrel
    by_cases hlt : k < s.size
    · have hcl : (s.data.toList.take k).count 47 ≤ k := by
        have := List.count_le_length (a := (47 : UInt8)) (l := s.data.toList.take k)
        rw [List.length_take] at this
        omega
      cases hp : ((s.extract k (k + 1)).toList == [47])
      · have HX := Lib.hid (count_no hlt hp)
        obtain ⟨c, hc⟩ : ∃ c, (s.data.toList.take k).count 47 = c := ⟨_, rfl⟩
        rw [hc] at hcl HX ⊢
        clear hc
        have hkl : (k : Int) + 1 ≤ s.size := by omega
        go_wp2_with fail
        go_round
        case rel => exact ⟨k + 1, by omega, by go_num, by rw [HX.out]⟩
        case measure => simp [intOf]; omega
      · have HX := Lib.hid (count_yes hlt hp)
        obtain ⟨c, hc⟩ : ∃ c, (s.data.toList.take k).count 47 = c := ⟨_, rfl⟩
        rw [hc] at hcl HX ⊢
        clear hc
        have hkl : (k : Int) + 1 ≤ s.size := by omega
        go_wp2_with fail
        go_round
        case rel => exact ⟨k + 1, by omega, by go_num, by rw [HX.out]; go_num⟩
        case measure => simp [intOf]; omega
    · obtain rfl : k = s.size := by omega
      have he : s.data.toList.take s.size = s.data.toList := List.take_of_length_le (by rw [← Lib.size_eq]; exact Nat.le_refl _)
      rw [he]
      clear he
      go_wp2_with fail
      go_ret
      exact ⟨rfl, rfl⟩

theorem repeat_any (m : Nat) (w : World) (hm : m ≤ 16777216) :
    Calls Tryd.prog 86 #[.string ⟨#[46, 46, 47]⟩, .int .i64 ((m : Int) + 1)] w fun e w' => e = .returned (.string (S (Lib.repeatL [46, 46, 47] (m + 1)))) ∧ Below w.heap.size w w' := by
  have := Tryd.strings_Repeat ⟨#[46, 46, 47]⟩ (m + 1) w (by omega) (by show 3 * (m + 1) ≤ _; omega)
  have e : ((m + 1 : Nat) : Int) = (m : Int) + 1 := by omega
  rw [e] at this
  exact this

/-! ### Rel -/
def Inv (C P C' P' : List Bs) : Prop := (C' = [] :: C ∧ P' = [] :: P) ∨ ((∀ x ∈ C', Seg x) ∧ (∀ x ∈ P', Seg x) ∧ C' ≠ P' ∧ way C' P' = way C P)
def RelRel (C P : List Bs) (N : Nat) (w : World) (p q : Value) (wr : World) : Prop :=
  ∃ C' P', p = .string (S (J C')) ∧ q = .string (S (J P')) ∧ Inv C P C' P' ∧ (J C').length ≤ N ∧ (J P').length ≤ N ∧ Below w.heap.size w wr
theorem rl_ne {a b : Bs} (h : a ≠ b) : ((S a).toList == (S b).toList) = false ∧ ((S a).toList != (S b).toList) = true := by
  rw [S_toList, S_toList]
  have := beq_eq_false_iff_ne.2 h
  exact ⟨this, by unfold bne; rw [this]; rfl⟩
theorem S_empty {a : Bs} (h : a ≠ []) : (S a).toList.isEmpty = false := by
  rw [S_toList]
  cases a with
  | nil => exact absurd rfl h
  | cons => rfl
theorem J_tail_le (x : Bs) (r : List Bs) : (J r).length ≤ (J (x :: r)).length := by
  rw [J]
  by_cases h : r = []
  · subst h; simp [J]
  · rw [if_neg h]; simp; omega
theorem J_tail_lt (x : Bs) (r : List Bs) (h : x ≠ [] ∨ r ≠ []) : (J r).length < (J (x :: r)).length := by
  rw [J]
  by_cases h0 : r = []
  · subst h0
    have : x ≠ [] := h.resolve_right (fun e => e rfl)
    have := List.length_pos_iff.2 this
    simp [J]
    omega
  · rw [if_neg h0]; simp; omega
/-- What Rel says at two rooted paths. -/
def relT (C P : List Bs) : Bs := if C = P then [46] else J (way C P)
def RelEnd (C P : List Bs) (w : World) (e : Ending) (w' : World) : Prop := e = .returned (.tuple #[.string (S (relT C P)), .bool true]) ∧ Below w.heap.size w w'

theorem clean_path (l : List Bs) (w : World) (h0 : l ≠ []) (h : ∀ x ∈ l, Seg x) (hs : (J l).length ≤ 4194304) :
    Calls Tryd.prog 24 #[.string (S (47 :: J l))] w fun e w' => e = .returned (.string (S (47 :: J l))) ∧ Below w.heap.size w w' := by
  have := Tryd.path_Clean_rules (S (47 :: J l)) w (by rw [S_size, List.length_cons]; omega)
  rw [S_data, clean_J l h0 h] at this
  exact this

theorem slash_at (l : Bs) (h : 0 < (S (47 :: l)).size) : (((S (47 :: l))[0]'h).toNat : Int) = 47 := rfl
theorem root_lt (l : Bs) : 0 < (S (47 :: l)).size := by rw [S_size, List.length_cons]; omega
theorem root_ne_dot (l : Bs) : ((S (47 :: l)).toList == [46]) = false := by
  rw [S_toList]
  exact beq_eq_false_iff_ne.2 (by simp)
theorem root_ne {l m : Bs} (h : l ≠ m) : ((S (47 :: l)).toList == (S (47 :: m)).toList) = false := by
  rw [S_toList, S_toList]
  exact beq_eq_false_iff_ne.2 (by simpa using h)
theorem seg_no47 {l : List Bs} (h : ∀ x ∈ l, Seg x) : ∀ x ∈ l, 47 ∉ x := fun x hx => (h x hx).2.2.2.1
theorem strip_last (l : Bs) (n : Nat) (hn : n = l.length) : (S (l ++ [47])).extract 0 n = S l := by
  rw [extract_S, S_data, hn]
  simp
theorem below_drewN {B : Nat} {a w : World} (h : Below B a w) (n : Nat) : Below B a (w.drewN n) := by
  induction n with
  | zero => exact h
  | succ n ih => exact ih.drew
/-- What is at the door of the loop. -/
structure At (b : Nat) (C P : List Bs) (w : World) : Prop where
  hC : C ≠ []
  hP : P ≠ []
  sC : ∀ x ∈ C, Seg x
  sP : ∀ x ∈ P, Seg x
  ne : C ≠ P
  zC : (J C).length ≤ 4194304
  zP : (J P).length ≤ 4194304
  lt : b < w.heap.size
  k : w.cell? ⟨b, 4, none⟩ = some (.int .u8 0)

set_option maxHeartbeats 8000000 in
set_option maxRecDepth 100000 in
theorem rel_same (b : Nat) (C : List Bs) (w : World) (hC : C ≠ []) (sC : ∀ x ∈ C, Seg x) (hk : w.cell? ⟨b, 4, none⟩ = some (.int .u8 0)) (zC : (J C).length ≤ 4194304) :
    Calls Tryd.prog 81 #[.pointer (some ⟨b, 0, none⟩), .string (S (47 :: J C)), .string (S (47 :: J C))] w (RelEnd C C w) := by
  have HB := Lib.hid (fun wx => clean_path C wx hC sC zC)
  clear hC sC zC
  obtain ⟨q, hq⟩ : ∃ q, J C = q := ⟨_, rfl⟩
  rw [hq] at HB ⊢
  clear hq
  go_enter Tryd.func81, Tryd.ntmps81
  go_wp2_with fail
  refine (HB.out _).mono ?_
  rintro e w1 ⟨rfl, hb1⟩
  clear hk
  go_wp2_with fail
  refine (HB.out _).mono ?_
  rintro e w2 ⟨rfl, hb2⟩
  go_wp2_with fail
  go_ret2
  refine ⟨?_, hb1.trans (hb2.mono hb1.size)⟩
  unfold relT
  rw [if_pos rfl]
  rfl

set_option maxHeartbeats 8000000 in
set_option maxRecDepth 100000 in
theorem rel_any (b : Nat) (C P : List Bs) (w : World) (hC : C ≠ []) (hP : P ≠ []) (sC : ∀ x ∈ C, Seg x) (sP : ∀ x ∈ P, Seg x) (hk : w.cell? ⟨b, 4, none⟩ = some (.int .u8 0)) (zC : (J C).length ≤ 4194304) (zP : (J P).length ≤ 4194304) (hne : C ≠ P) :
    Calls Tryd.prog 81 #[.pointer (some ⟨b, 0, none⟩), .string (S (47 :: J C)), .string (S (47 :: J P))] w (RelEnd C P w) := by
  have HA := Lib.hid (At.mk (b := b) hC hP sC sP hne zC zP (World.block_lt_of_cell? w _ hk) hk)
  have HB := Lib.hid (fun wx => clean_path C wx hC sC zC)
  have HT := Lib.hid (fun wx => clean_path P wx hP sP zP)
  have t1 := root_ne (fun e => hne (J_inj hC hP (seg_no47 sC) (seg_no47 sP) e))
  have t2 := root_ne_dot (J C)
  have g1 := root_lt (J C)
  have g2 := root_lt (J P)
  have s1 := slash_at (J C) g1
  have s2 := slash_at (J P) g2
  clear hC hP sC sP zC zP hne
  go_enter Tryd.func81, Tryd.ntmps81
  go_wp2_with fail
  refine (HB.out _).mono ?_
  rintro e w1 ⟨rfl, hb1⟩
  clear hk
  go_wp2_with fail
  refine (HT.out _).mono ?_
  rintro e w2 ⟨rfl, hb2⟩
  have HW := Lib.hid (hb1.trans (hb2.mono hb1.size))
  clear hb1 hb2
  go_wp2_with fail
  go_big_quiet (fail)
  have HW3 := Lib.hid (below_drewN HW.out nq)
  go_wp2_with fail
  clear t1 t2 g1 g2 s1 s2
  go_loopw [1, 2] (fun p q wr => RelRel C P 8388608 w p q wr) (fun p _ _ => match p with | .string s => s.size | _ => 0)
  case atStart =>
    refine ⟨[] :: C, [] :: P, ?_, ?_, .inl ⟨rfl, rfl⟩, ?_, ?_, HW3.out⟩
    · rw [J_cons_nil C HA.out.hC]
    · rw [J_cons_nil P HA.out.hP]
    · rw [J_cons_nil C HA.out.hC, List.length_cons]; have := HA.out.zC; omega
    · rw [J_cons_nil P HA.out.hP, List.length_cons]; have := HA.out.zP; omega
  case round =>
    obtain ⟨C', P', rfl, rfl, hinv, hz1, hz2, hbw⟩ := hrel
    have HB1 := Lib.hid hbw
    clear hbw
    rcases hinv with ⟨rfl, rfl⟩ | ⟨hs1, hs2, hne, hway⟩
    · have L1 := J_tail_lt [] C (.inr HA.out.hC)
      have L2 := J_tail_le [] P
      have L3 := J_tail_le [] C
      go_wp2_with fail
      refine (split_J [] C _ (by simp) (by omega)).mono ?_
      rintro e w4 ⟨rfl, hb4⟩
      go_wp2_with fail
      refine (split_J [] P _ (by simp) (by omega)).mono ?_
      rintro e w5 ⟨rfl, hb5⟩
      have HB5 := Lib.hid (HB1.out.trans ((hb4.trans (hb5.mono hb4.size)).mono HB1.out.size))
      clear hb4 hb5
      go_wp2_with fail
      refine ⟨⟨C, P, rfl, rfl, .inr ⟨HA.out.sC, HA.out.sP, HA.out.ne, rfl⟩, by omega, by omega, HB5.out⟩, ?_⟩
      show (S (J C)).size < (S (J ([] :: C))).size
      rw [S_size, S_size]
      exact L1
    · have HI := Lib.hid (And.intro hs1 (And.intro hs2 (And.intro hne hway)))
      clear hs1 hs2 hne hway
      have HKK := Lib.hid (fun (wz : World) (hz : Below w.heap.size w wz) => (hz.cell (p := ⟨b, 4, none⟩) HA.out.lt).trans HA.out.k)
      cases C' with
      | nil =>
        cases P' with
        | nil => exact absurd rfl HI.out.2.2.1
        | cons p P2 =>
          have hp := HI.out.2.1 p (by simp)
          have hd := rl_ne (a := []) (b := p) (fun e => hp.1 e.symm)
          obtain ⟨d1, d2⟩ := hd
          have d3 : (S (J [])).toList.isEmpty = true := by rw [S_toList]; rfl
          have hp47 := hp.2.2.2.1
          clear hp
          go_wp2_with fail
          refine (split_nil _).mono ?_
          rintro e w4 ⟨rfl, hb4⟩
          go_wp2_with fail
          refine (split_J p P2 _ hp47 (by omega)).mono ?_
          rintro e w5 ⟨rfl, hb5⟩
          have HB5 := Lib.hid (HB1.out.trans ((hb4.trans (hb5.mono hb4.size)).mono HB1.out.size))
          have k5 := HKK.out _ HB5.out
          clear hb4 hb5
          go_wp2_with fail
          go_ret2
          refine ⟨?_, HB5.out⟩
          unfold relT
          rw [if_neg HA.out.ne, ← HI.out.2.2.2, way_nil]
          rfl
      | cons c C2 =>
        have hc := HI.out.1 c (by simp)
        have hc47 := hc.2.2.2.1
        have hcn : J (c :: C2) ≠ [] := J_ne (by simp) (fun x hx => (HI.out.1 x hx).1)
        have e1 := S_empty hcn
        have hcount := count_J (c :: C2) (by simp) (seg_no47 HI.out.1)
        obtain ⟨m, hm⟩ : ∃ m, (J (c :: C2)).count 47 = m := ⟨_, rfl⟩
        have hml : m ≤ 8388608 := by
          have := List.count_le_length (a := (47 : UInt8)) (l := J (c :: C2))
          omega
        have hct := fun wx => count_any (S (J (c :: C2))) wx (by rw [S_size]; omega)
        rw [S_data, hm] at hct
        have HCT := Lib.hid hct
        rw [hm] at hcount
        have HM := Lib.hid hcount
        clear hct hcount hm hcn
        cases P' with
        | nil =>
          have hd := rl_ne (a := c) (b := []) hc.1
          obtain ⟨d1, d2⟩ := hd
          have d3 : (S (J [])).toList.isEmpty = true := by rw [S_toList]; rfl
          have d4 : (S ([] : Bs)).toList.isEmpty = true := by rw [S_toList]; rfl
          clear hc
          go_wp2_with fail
          refine (split_J c C2 _ hc47 (by omega)).mono ?_
          rintro e w4 ⟨rfl, hb4⟩
          go_wp2_with fail
          refine (split_nil _).mono ?_
          rintro e w5 ⟨rfl, hb5⟩
          have HB5 := Lib.hid (HB1.out.trans ((hb4.trans (hb5.mono hb4.size)).mono HB1.out.size))
          clear hb4 hb5
          go_wp2_with fail
          refine (HCT.out _).mono ?_
          rintro e w6 ⟨rfl, rfl⟩
          go_wp2_with fail
          refine (repeat_any m _ (by omega)).mono ?_
          rintro e w7 ⟨rfl, hb7⟩
          have HB7 := Lib.hid (HB5.out.trans (hb7.mono HB5.out.size))
          have k5 := HKK.out _ HB7.out
          have hrl : (S (Lib.repeatL [46, 46, 47] (m + 1))).size = 3 * (m + 1) := by rw [S_size, Lib.repeatL_length]; simp; omega
          have hst : (S (Lib.repeatL [46, 46, 47] (m + 1))).extract 0 (3 * (m + 1) - 1) = S (J ((c :: C2).map fun _ => DD)) := by
            have h1 := ups_end (c :: C2) (by simp)
            rw [← HM.out] at h1
            have h2 := congrArg List.length h1
            rw [Lib.repeatL_length, List.length_append] at h2
            simp only [List.length_cons, List.length_nil] at h2
            rw [h1]
            exact strip_last _ _ (by omega)
          obtain ⟨R, hR⟩ : ∃ R, S (Lib.repeatL [46, 46, 47] (m + 1)) = R := ⟨_, rfl⟩
          rw [hR] at hrl hst ⊢
          clear hb7 hR
          go_wp2_with fail
          go_ret2
          refine ⟨?_, HB7.out⟩
          unfold relT
          rw [if_neg HA.out.ne, ← HI.out.2.2.2, way_stop _ (by simp)]
          rw [← hst]
          rfl
        | cons p P2 =>
          have hp := HI.out.2.1 p (by simp)
          have hp47 := hp.2.2.2.1
          by_cases hcp : c = p
          · subst hcp
            have L1 := J_tail_lt c C2 (.inl hc.1)
            have L2 := J_tail_le c P2
            clear hc hp e1
            go_wp2_with fail
            refine (split_J c C2 _ hc47 (by omega)).mono ?_
            rintro e w4 ⟨rfl, hb4⟩
            go_wp2_with fail
            refine (split_J c P2 _ hc47 (by omega)).mono ?_
            rintro e w5 ⟨rfl, hb5⟩
            have HB5 := Lib.hid (HB1.out.trans ((hb4.trans (hb5.mono hb4.size)).mono HB1.out.size))
            clear hb4 hb5
            go_wp2_with fail
            refine ⟨⟨C2, P2, rfl, rfl, .inr ⟨fun x hx => HI.out.1 x (List.mem_cons_of_mem _ hx), fun x hx => HI.out.2.1 x (List.mem_cons_of_mem _ hx), fun e => HI.out.2.2.1 (by rw [e]), ?_⟩, by omega, by omega, HB5.out⟩, ?_⟩
            · have := HI.out.2.2.2
              rwa [way_same rfl] at this
            · show (S (J C2)).size < (S (J (c :: C2))).size
              rw [S_size, S_size]
              exact L1
          · have hd := rl_ne hcp
            obtain ⟨d1, d2⟩ := hd
            have hpn : J (p :: P2) ≠ [] := J_ne (by simp) (fun x hx => (HI.out.2.1 x hx).1)
            have d3 := S_empty hpn
            have HH := Lib.hid hcp
            clear hc hp hpn hcp
            go_wp2_with fail
            refine (split_J c C2 _ hc47 (by omega)).mono ?_
            rintro e w4 ⟨rfl, hb4⟩
            go_wp2_with fail
            refine (split_J p P2 _ hp47 (by omega)).mono ?_
            rintro e w5 ⟨rfl, hb5⟩
            have HB5 := Lib.hid (HB1.out.trans ((hb4.trans (hb5.mono hb4.size)).mono HB1.out.size))
            clear hb4 hb5
            go_wp2_with fail
            refine (HCT.out _).mono ?_
            rintro e w6 ⟨rfl, rfl⟩
            go_wp2_with fail
            refine (repeat_any m _ (by omega)).mono ?_
            rintro e w7 ⟨rfl, hb7⟩
            have HB7 := Lib.hid (HB5.out.trans (hb7.mono HB5.out.size))
            have k5 := HKK.out _ HB7.out
            have hrl : (S (Lib.repeatL [46, 46, 47] (m + 1))).size = 3 * (m + 1) := by rw [S_size, Lib.repeatL_length]; simp; omega
            have hpl : (S (J (p :: P2))).size ≤ 8388608 := by rw [S_size]; exact hz2
            have hadd := fun wx => run_add_S (P := Tryd.prog) (S (Lib.repeatL [46, 46, 47] (m + 1))) (S (J (p :: P2))) (by omega) wx
            have hst := ups (c :: C2) p P2 (by simp)
            rw [← HM.out] at hst
            rw [S_data, S_data, hst] at hadd
            obtain ⟨R, hR⟩ : ∃ R, S (Lib.repeatL [46, 46, 47] (m + 1)) = R := ⟨_, rfl⟩
            rw [hR] at hadd ⊢
            clear hb7 hR hst hrl hpl
            go_wp2_with fail
            go_ret2
            refine ⟨?_, HB7.out⟩
            unfold relT
            rw [if_neg HA.out.ne, ← HI.out.2.2.2, way_part HH.out]
            rfl

/-- At a target that is not rooted Rel refuses. -/
def RelNo (w : World) (e : Ending) (w' : World) : Prop := e = .returned (.tuple #[.string ⟨#[]⟩, .bool false]) ∧ Below w.heap.size w w'
theorem not_slash {l : Bs} (h : l.head? ≠ some 47) (h0 : 0 < (S l).size) : ((((S l)[0]'h0).toNat : Int) == 47) = false := by
  rw [beq_eq_false_iff_ne]
  intro e
  have e2 : (S l)[0]'h0 = 47 := UInt8.toNat_inj.1 (by show _ = 47; omega)
  have e3 := Lib.data_getElem? (S l) 0 h0
  rw [S_data, e2] at e3
  rw [List.head?_eq_getElem?] at h
  exact h e3
theorem root_ne_any {l m : Bs} (h : m.head? ≠ some 47) : ((S (47 :: l)).toList == (S m).toList) = false := by
  rw [S_toList, S_toList, beq_eq_false_iff_ne]
  rintro rfl
  exact h rfl

set_option maxHeartbeats 4000000 in
set_option maxRecDepth 100000 in
theorem rel_no (b : Nat) (C : List Bs) (p : ByteArray) (w : World) (hC : C ≠ []) (sC : ∀ x ∈ C, Seg x) (hp : p.data.toList.head? ≠ some 47) (hk : w.cell? ⟨b, 4, none⟩ = some (.int .u8 0)) (zC : (J C).length ≤ 4194304) (zp : p.size ≤ 4194304) :
    Calls Tryd.prog 81 #[.pointer (some ⟨b, 0, none⟩), .string (S (47 :: J C)), .string p] w (RelNo w) := by
  have HB := Lib.hid (fun wx => clean_path C wx hC sC zC)
  have hcl := fun wx => Tryd.path_Clean_rules p wx (by omega)
  have hm := clean_rel_head _ hp
  obtain ⟨m, hme⟩ : ∃ m, Lib.Pa.cleanEls p.data.toList = m := ⟨_, rfl⟩
  rw [hme] at hcl hm
  have HT := Lib.hid hcl
  have t1 := root_ne_any (l := J C) hm
  have t2 := root_ne_dot (J C)
  have g1 := root_lt (J C)
  have s1 := slash_at (J C) g1
  clear hcl hme hC sC zC hp
  by_cases h0 : 0 < (S m).size
  · have s2 := not_slash hm h0
    clear hm
    go_enter Tryd.func81, Tryd.ntmps81
    go_wp2_with fail
    refine (HB.out _).mono ?_
    rintro e w1 ⟨rfl, hb1⟩
    clear hk
    go_wp2_with fail
    refine (HT.out _).mono ?_
    rintro e w2 ⟨rfl, hb2⟩
    have HW := Lib.hid (hb1.trans (hb2.mono hb1.size))
    have he : (⟨m.toArray⟩ : ByteArray) = S m := rfl
    rw [he]
    clear hb1 hb2 he
    go_wp2_with fail
    go_big_quiet (fail)
    have HW3 := Lib.hid (below_drewN HW.out nq)
    go_wp2_with fail
    go_ret2
    exact ⟨rfl, HW3.out⟩
  · clear hm
    have s0 : ((S m).size : Int) ≤ 0 := by omega
    go_enter Tryd.func81, Tryd.ntmps81
    go_wp2_with fail
    refine (HB.out _).mono ?_
    rintro e w1 ⟨rfl, hb1⟩
    clear hk
    go_wp2_with fail
    refine (HT.out _).mono ?_
    rintro e w2 ⟨rfl, hb2⟩
    have HW := Lib.hid (hb1.trans (hb2.mono hb1.size))
    have he : (⟨m.toArray⟩ : ByteArray) = S m := rfl
    rw [he]
    clear hb1 hb2 he
    go_wp2_with fail
    go_big_quiet (fail)
    have HW3 := Lib.hid (below_drewN HW.out nq)
    go_wp2_with fail
    go_ret2
    exact ⟨rfl, HW3.out⟩
end Go.Proofs.YtckkpbeiigapeaaDoor
