/-
  The contracts of the model's parts: the directory, the components counted, the components shared, the leading components; conditions: those that each names.
-/
import Derived.Test.YtcpaepfhjhcaoaaDoorCln
import Derived.Deep.LoopGhost
namespace Go.Proofs.YtcpaepfhjhcaoaaDoor
open Go.RowKit

theorem at_root {p : ByteArray} {cs : List Bs} (hp : p.data.toList = D cs) : p.data.toList[0]? = some 47 := by
  obtain ⟨r, hr⟩ := D_head cs
  rw [hp, hr]
  rfl
theorem no_at {p : ByteArray} {k : Nat} (h : k < p.size) (e : ((p[k].toNat : Int) == 47) = false) : p.data.toList[k]? ≠ some 47 := by
  rw [Lib.data_getElem? p k h]
  intro h2
  exact notB 47 47 rfl e (Option.some.inj h2)
def DirRel (p : ByteArray) (s3 s4 : Value) : Prop := ∃ k i : Nat, i ≤ p.size ∧ s3 = .int .i64 k ∧ s4 = .int .i64 i ∧ k < p.size ∧ p.data.toList[k]? = some 47 ∧ ∀ j, k < j → j < i → p.data.toList[j]? ≠ some 47

set_option maxHeartbeats 1000000 in
theorem dirOf_any (p : ByteArray) (cs : List Bs) (w : World) (hs : p.size ≤ 1048576) (hp : p.data.toList = D cs) (hc : Comps cs) : Calls Tryd.prog 18 #[.string p] w fun e w' => e = .returned (.string (S (D cs.dropLast))) ∧ w = w' := by
  have hr := at_root hp
  have h0 : 0 < p.size := by rw [Lib.size_eq]; exact (List.getElem?_eq_some_iff.1 hr).1
  have HR := Lib.hid hr
  have HP := Lib.hid (And.intro hp hc)
  clear hr hp hc
  go_enter Tryd.func18, Tryd.ntmps18
  go_wp2_with fail
  go_loop [3, 4] (fun s3 s4 => DirRel p s3 s4) (fun _ s4 => p.size - (intOf s4).toNat)
  case atStart => exact ⟨0, 0, by omega, rfl, rfl, h0, HR.out, fun j h1 h2 => by omega⟩
  case round =>
    obtain ⟨k, i, hi, rfl, rfl, hk, h47, hno⟩ := hrel
    have HK := Lib.hid (And.intro h47 hno)
    clear h47 hno
    by_cases hlt : i < p.size
    · cases q : ((p[i].toNat : Int) == 47)
      · have HX := Lib.hid (no_at hlt q)
        go_wp2_with fail
        go_round
        case rel => exact ⟨k, i + 1, by omega, rfl, by go_num, hk, HK.out.1, fun j h1 h2 => by
          by_cases e : j = i
          · subst e; exact HX.out
          · exact HK.out.2 j h1 (by omega)⟩
        case measure => simp [intOf]; omega
      · have HX := Lib.hid (at_of hlt (isB 47 47 rfl q))
        go_wp2_with fail
        go_round
        case rel => exact ⟨i, i + 1, by omega, rfl, by go_num, hlt, HX.out, fun j h1 h2 => by omega⟩
        case measure => simp [intOf]; omega
    · have hl : LastAt (D cs) k := by
        rw [← HP.out.1]
        refine ⟨HK.out.1, fun j hj => ?_⟩
        by_cases e : j < i
        · exact HK.out.2 j hj e
        · rw [List.getElem?_eq_none (by rw [← Lib.size_eq]; omega)]
          simp
      have hd := dir_of_last HP.out.2 hl
      by_cases hz : k = 0
      · subst hz
        have HD := Lib.hid hd
        clear hd hl
        go_wp2_with fail
        go_ret
        refine ⟨?_, rfl⟩
        rw [← HD.out]
        rfl
      · rw [if_neg hz, ← HP.out.1] at hd
        have HD := Lib.hid hd
        have hz2 : ((k : Int) == 0) = false := by rw [beq_eq_false_iff_ne]; omega
        clear hd hl
        go_wp2_with fail
        go_ret
        refine ⟨?_, rfl⟩
        rw [← HD.out, extract_S]
        rfl

theorem cnt_yes {s : ByteArray} {k : Nat} (h : k < s.size) (hp : ((s[k].toNat : Int) == 47) = true) : (s.data.toList.take (k + 1)).count 47 = (s.data.toList.take k).count 47 + 1 := by
  have h' : k < s.data.toList.length := by rw [← Lib.size_eq]; exact h
  have e : s.data.toList[k] = 47 := (List.getElem?_eq_some_iff.1 (at_of h (isB 47 47 rfl hp))).2
  rw [List.take_succ_eq_append_getElem h', List.count_append, e]
  simp
theorem cnt_no {s : ByteArray} {k : Nat} (h : k < s.size) (hp : ((s[k].toNat : Int) == 47) = false) : (s.data.toList.take (k + 1)).count 47 = (s.data.toList.take k).count 47 := by
  have h' : k < s.data.toList.length := by rw [← Lib.size_eq]; exact h
  have e : s.data.toList[k] ≠ 47 := fun e => no_at h hp (by rw [List.getElem?_eq_getElem h', e])
  rw [List.take_succ_eq_append_getElem h', List.count_append, List.count_singleton, if_neg (by simpa using e)]
  rfl
theorem cnt_le (s : ByteArray) (k : Nat) : (s.data.toList.take k).count 47 ≤ k := by
  have := List.count_le_length (a := (47 : UInt8)) (l := s.data.toList.take k)
  rw [List.length_take] at this
  omega
theorem D_count {cs : List Bs} (hc : Comps cs) (h : cs ≠ []) : (D cs).count 47 = cs.length := by
  rw [D_T h, count_T cs (fun x hx => no47 hc hx)]
theorem root_iff {p : ByteArray} {cs : List Bs} (hp : p.data.toList = D cs) (hc : Comps cs) : (p.toList == [47]) = decide (cs = []) := by
  rw [Lib.toList_data, hp]
  cases cs with
  | nil => rfl
  | cons x r =>
    rw [D_T (by simp), T]
    have := (hc x (by simp)).1
    rw [decide_eq_false (by simp), beq_eq_false_iff_ne]
    simp
    intro h
    exact absurd h this

set_option maxHeartbeats 1000000 in
theorem compCount_any (p : ByteArray) (cs : List Bs) (w : World) (hs : p.size ≤ 1048576) (hp : p.data.toList = D cs) (hc : Comps cs) : Calls Tryd.prog 19 #[.string p] w fun e w' => e = .returned (.int .i64 (cs.length : Nat)) ∧ w = w' := by
  have hr := root_iff hp hc
  by_cases hn : cs = []
  · subst hn
    rw [decide_eq_true rfl] at hr
    clear hp hc
    go_enter Tryd.func19, Tryd.ntmps19
    go_wp2_with fail
    go_ret
    exact ⟨rfl, rfl⟩
  · rw [decide_eq_false hn] at hr
    have HP := Lib.hid (And.intro hp (And.intro hc hn))
    clear hp hc hn
    go_enter Tryd.func19, Tryd.ntmps19
    go_wp2_with fail
    go_loop [3, 4] (fun n i => ∃ k : Nat, k ≤ p.size ∧ i = .int .i64 k ∧ n = .int .i64 ((p.data.toList.take k).count 47 : Nat)) (fun _ i => p.size - (intOf i).toNat)
    case atStart => exact ⟨0, Nat.zero_le _, rfl, rfl⟩
    case round =>
      obtain ⟨k, hk, rfl, rfl⟩ := hrel
      have hcl := cnt_le p k
      by_cases hlt : k < p.size
      · cases q : ((p[k].toNat : Int) == 47)
        · have HX := Lib.hid (cnt_no hlt q)
          obtain ⟨c, hc⟩ : ∃ c, (p.data.toList.take k).count 47 = c := ⟨_, rfl⟩
          rw [hc] at hcl HX ⊢
          clear hc
          go_wp2_with fail
          go_round
          case rel => exact ⟨k + 1, by omega, by go_num, by rw [HX.out]⟩
          case measure => simp [intOf]; omega
        · have HX := Lib.hid (cnt_yes hlt q)
          obtain ⟨c, hc⟩ : ∃ c, (p.data.toList.take k).count 47 = c := ⟨_, rfl⟩
          rw [hc] at hcl HX ⊢
          clear hc
          go_wp2_with fail
          go_round
          case rel => exact ⟨k + 1, by omega, by go_num, by rw [HX.out]; go_num⟩
          case measure => simp [intOf]; omega
      · have he : (p.data.toList.take k).count 47 = cs.length := by
          rw [List.take_of_length_le (by rw [← Lib.size_eq]; omega), HP.out.1, D_count HP.out.2.1 HP.out.2.2]
        rw [he]
        clear he hcl
        go_wp2_with fail
        go_ret
        exact ⟨rfl, rfl⟩

set_option maxHeartbeats 1000000 in
theorem prefix_any (p : ByteArray) (cs : List Bs) (m : Nat) (w : World) (hs : p.size ≤ 1048576) (hp : p.data.toList = D cs) (hc : Comps cs) (hm : m ≤ cs.length) : Calls Tryd.prog 21 #[.string p, .int .i64 m] w fun e w' => e = .returned (.string (S (D (cs.take m)))) ∧ w = w' := by
  by_cases h0 : m = 0
  · subst h0
    clear hp hc hm
    go_enter Tryd.func21, Tryd.ntmps21
    go_wp2_with fail
    go_ret
    exact ⟨rfl, rfl⟩
  · have q0 : ((m : Int) == 0) = false := by rw [beq_eq_false_iff_ne]; omega
    have hn : cs ≠ [] := by rintro rfl; simp at hm; exact h0 hm
    have HP := Lib.hid (And.intro hp (And.intro hc (And.intro hn hm)))
    have hml : m ≤ 1048576 := by
      have h1 := D_count hc hn
      have h2 := List.count_le_length (a := (47 : UInt8)) (l := D cs)
      rw [h1, ← hp, ← Lib.size_eq] at h2
      omega
    clear hp hc hn hm
    go_enter Tryd.func21, Tryd.ntmps21
    go_wp2_with fail
    go_loop [5, 6] (fun n i => ∃ k : Nat, k ≤ p.size ∧ i = .int .i64 k ∧ n = .int .i64 ((p.data.toList.take k).count 47 : Nat) ∧ (p.data.toList.take k).count 47 ≤ m) (fun _ i => p.size - (intOf i).toNat)
    case atStart => exact ⟨0, Nat.zero_le _, rfl, rfl, Nat.zero_le _⟩
    case round =>
      obtain ⟨k, hk, rfl, rfl, hle⟩ := hrel
      have hcl := cnt_le p k
      by_cases hlt : k < p.size
      · cases q : ((p[k].toNat : Int) == 47)
        · have HX := Lib.hid (cnt_no hlt q)
          obtain ⟨c, hc⟩ : ∃ c, (p.data.toList.take k).count 47 = c := ⟨_, rfl⟩
          rw [hc] at hcl hle HX ⊢
          clear hc
          go_wp2_with fail
          go_round
          case rel => exact ⟨k + 1, by omega, by go_num, by rw [HX.out], by rw [HX.out]; exact hle⟩
          case measure => simp [intOf]; omega
        · by_cases hcm : (p.data.toList.take k).count 47 = m
          · have hsl := slash_T cs k (fun x hx => no47 HP.out.2.1 hx) (by rw [← D_T HP.out.2.2.1, ← HP.out.1]; exact at_of hlt (isB 47 47 rfl q))
            rw [← D_T HP.out.2.2.1, ← HP.out.1, hcm] at hsl
            have HS := Lib.hid hsl
            clear hsl
            rw [hcm]
            clear hcm hcl hle
            go_wp2_with fail
            go_ret
            refine ⟨?_, rfl⟩
            have hne : cs.take m ≠ [] := by
              intro e
              have := congrArg List.length e
              have h3 := HP.out.2.2.2
              rw [List.length_take, List.length_nil] at this
              omega
            rw [extract_S, List.drop_zero, Nat.sub_zero, HS.out, D_T hne]
            rfl
          · have HX := Lib.hid (cnt_yes hlt q)
            obtain ⟨c, hc⟩ : ∃ c, (p.data.toList.take k).count 47 = c := ⟨_, rfl⟩
            rw [hc] at hcl hle hcm HX ⊢
            clear hc
            have q2 : ((c : Int) == (m : Int)) = false := by rw [beq_eq_false_iff_ne]; omega
            go_wp2_with fail
            go_round
            case rel => exact ⟨k + 1, by omega, by go_num, by rw [HX.out]; go_num, by rw [HX.out]; omega⟩
            case measure => simp [intOf]; omega
      · have he : (p.data.toList.take k).count 47 = cs.length := by
          rw [List.take_of_length_le (by rw [← Lib.size_eq]; omega), HP.out.1, D_count HP.out.2.1 HP.out.2.2.1]
        rw [he] at hle hcl ⊢
        clear he
        go_wp2_with fail
        go_ret
        refine ⟨?_, rfl⟩
        rw [List.take_of_length_le hle, ← HP.out.1, S_L]
        rfl

theorem low_int (c : UInt8) : ((low c).toNat : Int) = if 65 ≤ (c.toNat : Int) ∧ (c.toNat : Int) ≤ 90 then (c.toNat : Int) + 32 else c.toNat := by
  unfold low
  by_cases h : 65 ≤ c ∧ c ≤ 90
  · have h1 : 65 ≤ c.toNat := UInt8.le_iff_toNat_le.1 h.1
    have h2 : c.toNat ≤ 90 := UInt8.le_iff_toNat_le.1 h.2
    rw [if_pos h, if_pos ⟨by omega, by omega⟩, UInt8.toNat_add]
    show (((c.toNat + 32) % 256 : Nat) : Int) = _
    omega
  · rw [if_neg h, if_neg]
    intro hh
    exact h ⟨UInt8.le_iff_toNat_le.2 (by show 65 ≤ c.toNat; omega), UInt8.le_iff_toNat_le.2 (by show c.toNat ≤ 90; omega)⟩
theorem lower_any (c : UInt8) (w : World) : Calls Tryd.prog 30 #[.int .u8 (c.toNat : Int)] w fun e w' => e = .returned (.int .u8 ((low c).toNat : Int)) ∧ w = w' := by
  have hl := low_int c
  have hb : c.toNat < 256 := c.toNat_lt
  obtain ⟨n, hn⟩ : ∃ n, c.toNat = n := ⟨_, rfl⟩
  rw [hn] at hl hb ⊢
  clear hn
  by_cases h1 : (65 : Int) ≤ n
  · by_cases h2 : (n : Int) ≤ 90
    · rw [if_pos ⟨h1, h2⟩] at hl
      rw [hl]
      clear hl
      go_enter Tryd.func30, Tryd.ntmps30
      go_wp2_with fail
      go_ret
      exact ⟨rfl, rfl⟩
    · rw [if_neg (fun e => h2 e.2)] at hl
      rw [hl]
      clear hl
      go_enter Tryd.func30, Tryd.ntmps30
      go_wp2_with fail
      go_ret
      exact ⟨rfl, rfl⟩
  · rw [if_neg (fun e => h1 e.1)] at hl
    rw [hl]
    clear hl
    go_enter Tryd.func30, Tryd.ntmps30
    go_wp2_with fail
    go_ret
    exact ⟨rfl, rfl⟩

/-! ### The components shared -/
theorem run_stop {a b : Bs} (h : a = [] ∨ b = []) : run a b = 0 := by
  rcases h with rfl | rfl
  · rfl
  · cases a <;> rfl
theorem drop_cons {p : ByteArray} {j : Nat} (h : j < p.size) : p.data.toList.drop j = p[j] :: p.data.toList.drop (j + 1) := by
  have h' : j < p.data.toList.length := by rw [← Lib.size_eq]; exact h
  rw [List.drop_eq_getElem_cons h']
  rfl
theorem drop_end {p : ByteArray} {j : Nat} (h : ¬ j < p.size) : p.data.toList.drop j = [] := List.drop_eq_nil_of_le (by rw [← Lib.size_eq]; omega)
/-- Where the outer loop stands. -/
structure Out (x y : ByteArray) (t n i : Nat) (u : Bs) (xs : List Bs) (v : Bs) (ys : List Bs) : Prop where
  lx : i ≤ x.size
  ly : i ≤ y.size
  ex : x.data.toList.drop i = u ++ T xs
  ey : y.data.toList.drop i = v ++ T ys
  nu : No47 u
  nv : No47 v
  cx : ∀ z ∈ xs, No47 z
  cy : ∀ z ∈ ys, No47 z
  tot : t = n + lc (u :: xs) (v :: ys)
  small : n ≤ i
theorem Out.start {x y : ByteArray} {cs ds : List Bs} (hx : x.data.toList = D cs) (hy : y.data.toList = D ds) (hc : Comps cs) (hd : Comps ds) (h1 : cs ≠ []) (h2 : ds ≠ []) : ∃ u xs v ys, Out x y (lc cs ds) 0 1 u xs v ys := by
  cases cs with
  | nil => exact absurd rfl h1
  | cons u xs =>
    cases ds with
    | nil => exact absurd rfl h2
    | cons v ys =>
      rw [D_T (by simp), T] at hx hy
      refine ⟨u, xs, v, ys, ?_, ?_, by rw [hx]; rfl, by rw [hy]; rfl, comp_no47 hc u (by simp), comp_no47 hd v (by simp), fun z hz => comp_no47 hc z (List.mem_cons_of_mem _ hz), fun z hz => comp_no47 hd z (List.mem_cons_of_mem _ hz), by omega, by omega⟩
      · rw [Lib.size_eq, hx]; simp
      · rw [Lib.size_eq, hy]; simp
theorem endAt_iff {x : ByteArray} {i j : Nat} (hi : i ≤ j) (hj : j ≤ x.size) : EndAt (x.data.toList.drop i) (j - i) ↔ j = x.size ∨ x.data.toList[j]? = some 47 := by
  unfold EndAt
  rw [List.getElem?_drop, show i + (j - i) = j by omega, List.length_drop, ← Lib.size_eq]
  constructor
  · rintro (h | h)
    · left; omega
    · exact .inr h
  · rintro (h | h)
    · left; omega
    · exact .inr h
theorem Out.same {x y : ByteArray} {t n i j : Nat} {u v : Bs} {xs ys : List Bs} (h : Out x y t n i u xs v ys) (hij : i ≤ j) (hjx : j ≤ x.size) (hjy : j ≤ y.size) (hr : run (x.data.toList.drop i) (y.data.toList.drop i) = j - i) (e1 : j = x.size ∨ x.data.toList[j]? = some 47) (e2 : j = y.size ∨ y.data.toList[j]? = some 47) :
    lowL u = lowL v ∧ u.length = j - i := by
  have hrun := run_T u v xs ys h.nu h.nv
  rw [← h.ex, ← h.ey, hr] at hrun
  by_cases he : lowL u = lowL v
  · exact ⟨he, (hrun.1 he).1.symm⟩
  · exact absurd ⟨(endAt_iff hij hjx).2 e1, (endAt_iff hij hjy).2 e2⟩ (hrun.2 he)
theorem Out.differ {x y : ByteArray} {t n i j : Nat} {u v : Bs} {xs ys : List Bs} (h : Out x y t n i u xs v ys) (hij : i ≤ j) (hjx : j ≤ x.size) (hjy : j ≤ y.size) (hr : run (x.data.toList.drop i) (y.data.toList.drop i) = j - i) (e : ¬ ((j = x.size ∨ x.data.toList[j]? = some 47) ∧ (j = y.size ∨ y.data.toList[j]? = some 47))) : t = n := by
  have hrun := run_T u v xs ys h.nu h.nv
  have htot := h.tot
  rw [lc] at htot
  by_cases he : lowL u = lowL v
  · refine absurd ?_ e
    obtain ⟨h1, h2⟩ := hrun.1 he
    rw [← h.ex, ← h.ey, hr] at h1
    have hx1 : EndAt (x.data.toList.drop i) (j - i) := by
      rw [h.ex, h1]
      unfold EndAt
      cases xs with
      | nil => left; simp [T]
      | cons z zs => right; simp [T]
    have hy1 : EndAt (y.data.toList.drop i) (j - i) := by
      rw [h.ey, h1, h2]
      unfold EndAt
      cases ys with
      | nil => left; simp [T]
      | cons z zs => right; simp [T]
    exact ⟨(endAt_iff hij hjx).1 hx1, (endAt_iff hij hjy).1 hy1⟩
  · rw [if_neg he] at htot
    omega
theorem Out.stop {x y : ByteArray} {t n i j : Nat} {u v : Bs} {xs ys : List Bs} (h : Out x y t n i u xs v ys) (hij : i ≤ j) (hs : lowL u = lowL v) (hu : u.length = j - i) (e : j = x.size ∨ j = y.size) : t = n + 1 := by
  have htot := h.tot
  have hvl : v.length = u.length := by
    have := congrArg List.length hs
    simpa [lowL] using this.symm
  rw [lc, if_pos hs] at htot
  have hz : lc xs ys = 0 := by
    rcases e with e | e
    · have := congrArg List.length h.ex
      rw [List.length_drop, ← Lib.size_eq, List.length_append] at this
      have hx : xs = [] := T_nil_iff.1 (List.eq_nil_of_length_eq_zero (by omega))
      rw [hx]
      rfl
    · have := congrArg List.length h.ey
      rw [List.length_drop, ← Lib.size_eq, List.length_append] at this
      have hx : ys = [] := T_nil_iff.1 (List.eq_nil_of_length_eq_zero (by omega))
      rw [hx, lc_nil]
  omega
theorem Out.next {x y : ByteArray} {t n i j : Nat} {u v : Bs} {xs ys : List Bs} (h : Out x y t n i u xs v ys) (hij : i ≤ j) (hjx : j < x.size) (hjy : j < y.size) (hs : lowL u = lowL v) (hu : u.length = j - i) : ∃ u' xs' v' ys', Out x y t (n + 1) (j + 1) u' xs' v' ys' := by
  have hvl : v.length = u.length := by
    have := congrArg List.length hs
    simpa [lowL] using this.symm
  have ex : x.data.toList.drop j = T xs := by
    have : x.data.toList.drop j = (x.data.toList.drop i).drop (j - i) := by rw [List.drop_drop, show i + (j - i) = j by omega]
    rw [this, h.ex, ← hu]
    simp
  have ey : y.data.toList.drop j = T ys := by
    have : y.data.toList.drop j = (y.data.toList.drop i).drop (j - i) := by rw [List.drop_drop, show i + (j - i) = j by omega]
    rw [this, h.ey, ← hu, ← hvl]
    simp
  have htot := h.tot
  rw [lc, if_pos hs] at htot
  cases xs with
  | nil =>
    have := congrArg List.length ex
    rw [List.length_drop, ← Lib.size_eq] at this
    simp [T] at this
    omega
  | cons u' xs' =>
    cases ys with
    | nil =>
      have := congrArg List.length ey
      rw [List.length_drop, ← Lib.size_eq] at this
      simp [T] at this
      omega
    | cons v' ys' =>
      rw [drop_cons hjx, T] at ex
      rw [drop_cons hjy, T] at ey
      exact ⟨u', xs', v', ys', by omega, by omega, (List.cons.inj ex).2, (List.cons.inj ey).2, h.cx u' (by simp), h.cy v' (by simp), fun z hz => h.cx z (List.mem_cons_of_mem _ hz), fun z hz => h.cy z (List.mem_cons_of_mem _ hz), by omega, by have := h.small; omega⟩
/-- Where the inner loop stands. -/
def Inn (x y : ByteArray) (i j : Nat) : Prop := i ≤ j ∧ j ≤ x.size ∧ j ≤ y.size ∧ run (x.data.toList.drop i) (y.data.toList.drop i) = (j - i) + run (x.data.toList.drop j) (y.data.toList.drop j)
theorem Inn.step {x y : ByteArray} {i j : Nat} (h : Inn x y i j) (hx : j < x.size) (hy : j < y.size) (h1 : x[j] ≠ 47) (h2 : y[j] ≠ 47) (h3 : low x[j] = low y[j]) : Inn x y i (j + 1) := by
  obtain ⟨a1, a2, a3, a4⟩ := h
  refine ⟨by omega, by omega, by omega, ?_⟩
  rw [a4, drop_cons hx, drop_cons hy, run, if_pos ⟨h1, h2, h3⟩]
  omega
theorem Inn.done {x y : ByteArray} {i j : Nat} (h : Inn x y i j) (e : ∀ (hx : j < x.size) (hy : j < y.size), ¬ (x[j] ≠ 47 ∧ y[j] ≠ 47 ∧ low x[j] = low y[j])) : run (x.data.toList.drop i) (y.data.toList.drop i) = j - i := by
  rw [h.2.2.2]
  have : run (x.data.toList.drop j) (y.data.toList.drop j) = 0 := by
    by_cases hx : j < x.size
    · by_cases hy : j < y.size
      · rw [drop_cons hx, drop_cons hy, run, if_neg (e hx hy)]
      · exact run_stop (.inr (drop_end hy))
    · exact run_stop (.inl (drop_end hx))
  omega
end Go.Proofs.YtcpaepfhjhcaoaaDoor
