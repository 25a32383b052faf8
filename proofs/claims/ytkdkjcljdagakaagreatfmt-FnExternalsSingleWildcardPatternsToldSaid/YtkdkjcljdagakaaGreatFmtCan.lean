/-
  The contracts of the model of a valid name, and of the first and last occurrence of a key; conditions: those that each names.
-/
import Derived.Test.YtkdkjcljdagakaaGreatFmtGdx
import Derived.Test.YtkdkjcljdagakaaGreatFmtFlt
import Derived.BigQuiet
import Derived.Deep.QuietTactic
namespace Go.Proofs.YtkdkjcljdagakaaGreatFmt
open Go.RowKit Go.Lib

def okS (c : Bs) : Bool := !c.isEmpty && !(c == [46]) && !(c == [46, 46])
def chk : Bs → Bs → Bool
  | cur, [] => okS cur
  | cur, c :: t => if c = 92 then false else if c = 47 then okS cur && chk [] t else chk (cur ++ [c]) t
theorem okS_iff {c : Bs} (h1 : 47 ∉ c) (h2 : 92 ∉ c) : okS c = true ↔ Seg c := by
  unfold okS Seg
  simp only [Bool.and_eq_true, Bool.not_eq_true', beq_eq_false_iff_ne, ne_eq, List.isEmpty_eq_false_iff]
  constructor
  · rintro ⟨⟨a, b⟩, d⟩
    exact ⟨a, b, d, h1, h2⟩
  · rintro ⟨a, b, d, _⟩
    exact ⟨⟨a, b⟩, d⟩
theorem chk_iff : ∀ (l cur : Bs), 47 ∉ cur → 92 ∉ cur → (chk cur l = true ↔ ∃ e r, Pa.els l = e :: r ∧ Seg (cur ++ e) ∧ ∀ x ∈ r, Seg x)
  | [], cur, h1, h2 => by
    show okS cur = true ↔ _
    rw [okS_iff h1 h2]
    constructor
    · intro h
      exact ⟨[], [], rfl, by rwa [List.append_nil], fun x hx => by cases hx⟩
    · rintro ⟨e, r, he, h, _⟩
      cases he
      rwa [List.append_nil] at h
  | c :: t, cur, h1, h2 => by
    rw [chk, Pa.els]
    by_cases h92 : c = 92
    · subst h92
      rw [if_pos rfl, if_neg (by decide)]
      obtain ⟨e0, r0, he0⟩ := Pa.els_ne t
      rw [he0]
      constructor
      · intro h
        cases h
      · rintro ⟨e, r, he, hs, _⟩
        cases he
        exact absurd (by simp) hs.2.2.2.2
    · rw [if_neg h92]
      by_cases h47 : c = 47
      · rw [if_pos h47, if_pos h47, Bool.and_eq_true, okS_iff h1 h2, chk_iff t [] (by simp) (by simp)]
        constructor
        · rintro ⟨hs, e, r, he, h3, h4⟩
          refine ⟨[], Pa.els t, rfl, by rwa [List.append_nil], ?_⟩
          rw [he]
          intro x hx
          rcases List.mem_cons.1 hx with rfl | hx
          · simpa using h3
          · exact h4 x hx
        · rintro ⟨e, r, he, h3, h4⟩
          cases he
          obtain ⟨e0, r0, he0⟩ := Pa.els_ne t
          rw [List.append_nil] at h3
          refine ⟨h3, e0, r0, he0, ?_, fun x hx => h4 x (by rw [he0]; exact List.mem_cons_of_mem _ hx)⟩
          rw [List.nil_append]
          exact h4 e0 (by rw [he0]; simp)
      · rw [if_neg h47, if_neg h47, chk_iff t (cur ++ [c]) (by simp [h1, Ne.symm h47]) (by simp [h2, Ne.symm h92])]
        obtain ⟨e0, r0, he0⟩ := Pa.els_ne t
        rw [he0]
        constructor
        · rintro ⟨e, r, he, h3, h4⟩
          cases he
          exact ⟨c :: e0, r0, rfl, by simpa using h3, h4⟩
        · rintro ⟨e, r, he, h3, h4⟩
          cases he
          exact ⟨e0, r0, rfl, by simpa using h3, h4⟩
theorem okB_chk (l : Bs) : okB l = (!(l.head? == some 46) && !(l.head? == some 47) && chk [] l) := by
  apply Bool.eq_iff_iff.2
  rw [okB_iff]
  simp only [Bool.and_eq_true, Bool.not_eq_true', beq_eq_false_iff_ne, ne_eq]
  rw [chk_iff l [] (by simp) (by simp)]
  obtain ⟨e0, r0, he0⟩ := Pa.els_ne l
  constructor
  · rintro ⟨h1, h2, h3⟩
    exact ⟨⟨h1, h2⟩, e0, r0, he0, by rw [List.nil_append]; exact h3 e0 (by rw [he0]; simp), fun x hx => h3 x (by rw [he0]; exact List.mem_cons_of_mem _ hx)⟩
  · rintro ⟨⟨h1, h2⟩, e, r, he, h3, h4⟩
    refine ⟨h1, h2, ?_⟩
    rw [he]
    intro x hx
    rcases List.mem_cons.1 hx with rfl | hx
    · simpa using h3
    · exact h4 x hx

/-- The model's loop: the segment from st to i is open. -/
def CRel (l : Bs) (s3 s4 : Value) : Prop := ∃ st i : Nat, s3 = .int .i64 st ∧ s4 = .int .i64 i ∧ st ≤ i ∧ i ≤ l.length + 1 ∧ (i ≤ l.length → chk ((l.drop st).take (i - st)) (l.drop i) = chk [] l) ∧ (i = l.length + 1 → chk [] l = true)
theorem drop_next {l : Bs} {i : Nat} {c : UInt8} (h : l[i]? = some c) : l.drop i = c :: l.drop (i + 1) := by
  obtain ⟨hi, rfl⟩ := List.getElem?_eq_some_iff.1 h
  exact List.drop_eq_getElem_cons hi
theorem take_next {l : Bs} {st i : Nat} {c : UInt8} (hs : st ≤ i) (h : l[i]? = some c) : (l.drop st).take (i + 1 - st) = (l.drop st).take (i - st) ++ [c] := by
  rw [show i + 1 - st = (i - st) + 1 by omega, List.take_add_one, List.getElem?_drop, show st + (i - st) = i by omega, h]
  rfl
theorem at_of {p : ByteArray} {k : Nat} (h : k < p.size) {c : UInt8} (e : p[k] = c) : p.data.toList[k]? = some c := by rw [Lib.data_getElem? p k h, e]
theorem isB (a : Nat) {b : UInt8} (c : UInt8) (hc : c.toNat = a) (h : ((b.toNat : Int) == (a : Int)) = true) : b = c := UInt8.toNat_inj.1 (by rw [beq_iff_eq] at h; omega)
theorem notB (a : Nat) {b : UInt8} (c : UInt8) (hc : c.toNat = a) (h : ((b.toNat : Int) == (a : Int)) = false) : b ≠ c := by
  rintro rfl
  rw [hc, beq_self_eq_true] at h
  cases h

set_option maxHeartbeats 4000000 in
set_option maxRecDepth 100000 in
theorem clean_name (p : ByteArray) (w : World) (hp : p.size ≤ 1048576) : Calls Tryz.prog 18 #[.string p] w fun e w' => e = .returned (.bool (okB p.data.toList)) ∧ w = w' := by
  by_cases h0 : p.size = 0
  · have q0 : ((p.size : Int) == 0) = true := by rw [h0]; rfl
    have hl : p.data.toList = [] := List.eq_nil_of_length_eq_zero (by rw [← Lib.size_eq]; exact h0)
    rw [hl]
    clear h0 hl
    go_enter Tryz.func18, Tryz.ntmps18
    go_wp2_with fail
    go_ret
    exact ⟨rfl, rfl⟩
  have q0 : ((p.size : Int) == 0) = false := by rw [beq_eq_false_iff_ne]; omega
  have lt0 : 0 < p.size := by omega
  have hhd : p.data.toList.head? = some p[0] := by rw [List.head?_eq_getElem?]; exact at_of lt0 rfl
  cases q1 : ((p[0].toNat : Int) == 46)
  · cases q2 : ((p[0].toNat : Int) == 47)
    · have hok : okB p.data.toList = chk [] p.data.toList := by
        rw [okB_chk, hhd]
        have e1 := notB 46 46 rfl q1
        have e2 := notB 47 47 rfl q2
        simp [e1, e2]
      rw [hok]
      clear hok hhd
      go_enter Tryz.func18, Tryz.ntmps18
      go_wp2_with fail
      clear q0 q1 q2
      go_loop [3, 4] (fun s3 s4 => CRel p.data.toList s3 s4) (fun _ s4 => p.size + 1 - (intOf s4).toNat)
      case atStart => exact ⟨0, 0, rfl, rfl, Nat.le_refl _, by omega, fun _ => by simp, fun h => by omega⟩
      case round =>
        obtain ⟨st, i, rfl, rfl, hst, htop, hr, hend⟩ := hrel
        rw [← Lib.size_eq] at htop hr hend
        have HQ := Lib.hid (And.intro hr hend)
        clear hr hend
        by_cases hlt : i < p.size
        · have n1 : ((i : Int) == (p.size : Int)) = false := by rw [beq_eq_false_iff_ne]; omega
          have hat := at_of hlt rfl
          have hq := HQ.out.1 (by omega)
          rw [drop_next hat, chk] at hq
          cases r3 : ((p[i].toNat : Int) == 92)
          · rw [if_neg (notB 92 92 rfl r3)] at hq
            cases r1 : ((p[i].toNat : Int) == 47)
            · rw [if_neg (notB 47 47 rfl r1), ← take_next hst hat] at hq
              have HC := Lib.hid hq
              clear hq hat
              go_wp2_with fail
              go_round
              case rel => exact ⟨st, i + 1, rfl, by go_num, by omega, by rw [← Lib.size_eq]; omega, fun _ => HC.out, fun h => by rw [← Lib.size_eq] at h; omega⟩
              case measure => simp [intOf]; omega
            · rw [if_pos (isB 47 47 rfl r1)] at hq
              obtain ⟨c, hc⟩ : ∃ c, p.extract st i = c := ⟨_, rfl⟩
              have he : (p.data.toList.drop st).take (i - st) = c.toList := by rw [← hc, Lib.toList_data, Lib.extract_data]
              rw [he] at hq
              have HC := Lib.hid hq
              clear hq hat he
              cases c0 : c.toList.isEmpty
              · cases c1 : (c.toList == [46])
                · cases c2 : (c.toList == [46, 46])
                  · go_wp2_with fail
                    go_round
                    case rel =>
                      refine ⟨i + 1, i + 1, by go_num, by go_num, Nat.le_refl _, by rw [← Lib.size_eq]; omega, fun _ => ?_, fun h => by rw [← Lib.size_eq] at h; omega⟩
                      rw [Nat.sub_self, List.take_zero, ← HC.out]
                      unfold okS
                      rw [c0, c1, c2]
                      rfl
                    case measure => simp [intOf]; omega
                  · go_wp2_with fail
                    go_ret
                    refine ⟨ret_bool ?_, rfl⟩
                    rw [← HC.out]
                    unfold okS
                    rw [c2]
                    simp
                · go_wp2_with fail
                  go_ret
                  refine ⟨ret_bool ?_, rfl⟩
                  rw [← HC.out]
                  unfold okS
                  rw [c1]
                  simp
              · go_wp2_with fail
                go_ret
                refine ⟨ret_bool ?_, rfl⟩
                rw [← HC.out]
                unfold okS
                rw [c0]
                simp
          · rw [if_pos (isB 92 92 rfl r3)] at hq
            have HC := Lib.hid hq
            clear hq hat
            go_wp2_with fail
            go_ret
            exact ⟨ret_bool HC.out, rfl⟩
        · by_cases hle : i ≤ p.size
          · obtain rfl : i = p.size := by omega
            have hq := HQ.out.1 (Nat.le_refl _)
            rw [show p.data.toList.drop p.size = [] from List.drop_eq_nil_of_le (by rw [← Lib.size_eq]; exact Nat.le_refl _), show ∀ c, chk c [] = okS c from fun _ => rfl] at hq
            obtain ⟨c, hc⟩ : ∃ c, p.extract st p.size = c := ⟨_, rfl⟩
            have he : (p.data.toList.drop st).take (p.size - st) = c.toList := by rw [← hc, Lib.toList_data, Lib.extract_data]
            rw [he] at hq
            have HC := Lib.hid hq
            clear hq he
            cases c0 : c.toList.isEmpty
            · cases c1 : (c.toList == [46])
              · cases c2 : (c.toList == [46, 46])
                · go_wp2_with fail
                  go_round
                  case rel =>
                    refine ⟨p.size + 1, p.size + 1, by go_num, by go_num, Nat.le_refl _, by rw [← Lib.size_eq]; omega, fun h => by rw [← Lib.size_eq] at h; omega, fun _ => ?_⟩
                    rw [← HC.out]
                    unfold okS
                    rw [c0, c1, c2]
                    rfl
                  case measure => simp [intOf]
                · go_wp2_with fail
                  go_ret
                  refine ⟨ret_bool ?_, rfl⟩
                  rw [← HC.out]
                  unfold okS
                  rw [c2]
                  simp
              · go_wp2_with fail
                go_ret
                refine ⟨ret_bool ?_, rfl⟩
                rw [← HC.out]
                unfold okS
                rw [c1]
                simp
            · go_wp2_with fail
              go_ret
              refine ⟨ret_bool ?_, rfl⟩
              rw [← HC.out]
              unfold okS
              rw [c0]
              simp
          · have HC := Lib.hid (HQ.out.2 (by omega))
            go_wp2_with fail
            go_ret
            exact ⟨ret_bool HC.out.symm, rfl⟩
    · have hok : okB p.data.toList = false := by
        rw [okB_chk, hhd, isB 47 47 rfl q2]
        rfl
      rw [hok]
      clear hok hhd
      go_enter Tryz.func18, Tryz.ntmps18
      go_wp2_with fail
      go_ret
      exact ⟨rfl, rfl⟩
  · have hok : okB p.data.toList = false := by
      rw [okB_chk, hhd, isB 46 46 rfl q1]
      rfl
    rw [hok]
    clear hok hhd
    go_enter Tryz.func18, Tryz.ntmps18
    go_wp2_with fail
    go_ret
    exact ⟨rfl, rfl⟩
end Go.Proofs.YtkdkjcljdagakaaGreatFmt
