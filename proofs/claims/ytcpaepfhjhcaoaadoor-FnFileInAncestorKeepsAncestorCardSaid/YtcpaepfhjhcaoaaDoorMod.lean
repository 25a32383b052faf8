/-
  The contract of the model of the lowest common directory; conditions: what the guards let by.
-/
import Derived.Test.YtcpaepfhjhcaoaaDoorLow
namespace Go.Proofs.YtcpaepfhjhcaoaaDoor
open Go.RowKit

theorem auto_in {ss : List ByteArray} {au : List Bool} {p : ByteArray} (h : p ∈ autos (pairs ss au)) : ∃ i : Nat, i < min ss.length au.length ∧ au[i]? = some true ∧ ss[i]? = some p := by
  obtain ⟨x, hx, rfl⟩ := List.mem_map.1 h
  obtain ⟨h1, h2⟩ := List.mem_filter.1 hx
  obtain ⟨i, hi, he⟩ := List.getElem_of_mem h1
  rw [pairs_len] at hi
  have h3 : (pairs ss au)[i]? = some x := by rw [List.getElem?_eq_getElem (by rw [pairs_len]; exact hi), he]
  unfold pairs at h3
  rw [List.getElem?_zip_eq_some] at h3
  refine ⟨i, hi, ?_, h3.1⟩
  rw [h3.2]
  exact congrArg some h2
theorem pair_at {ss : List ByteArray} {au : List Bool} {i : Nat} {p : ByteArray} {b : Bool} (h1 : ss[i]? = some p) (h2 : au[i]? = some b) : (pairs ss au)[i]? = some (p, b) := by
  unfold pairs
  rw [List.getElem?_zip_eq_some]
  exact ⟨h1, h2⟩
theorem Fit.ok {ss : List ByteArray} {au : List Bool} (h : Fit ss au) {i : Nat} {p : ByteArray} (hi : i < min ss.length au.length) (h1 : au[i]? = some true) (h2 : ss[i]? = some p) : Comps (cmp p.data.toList) ∧ p.data.toList = D (cmp p.data.toList) ∧ p.size ≤ 1048576 := by
  obtain ⟨cs, hc, he⟩ := h.clean i p hi h1 h2
  rw [he, cmp_D hc]
  refine ⟨hc, rfl, ?_⟩
  have := tot_mem (List.mem_of_getElem? h2)
  have := h.tot
  omega
/-- The last mark up to i. -/
def LastM (au : List Bool) (i : Nat) (v : Int) : Prop := (v = -1 ∧ ∀ j, j < i → au[j]? ≠ some true) ∨ ∃ k : Nat, v = k ∧ k < i ∧ au[k]? = some true ∧ ∀ j, k < j → j < i → au[j]? ≠ some true
theorem LastM.yes {au : List Bool} {i : Nat} (h : au[i]? = some true) : LastM au (i + 1) (i : Nat) := .inr ⟨i, rfl, by omega, h, fun j h1 h2 => by omega⟩
theorem LastM.no {au : List Bool} {i : Nat} {v : Int} (h : LastM au i v) (hn : au[i]? = some false) : LastM au (i + 1) v := by
  rcases h with ⟨h1, h2⟩ | ⟨k, h1, h2, h3, h4⟩
  · refine .inl ⟨h1, fun j hj => ?_⟩
    by_cases e : j = i
    · subst e; rw [hn]; simp
    · exact h2 j (by omega)
  · refine .inr ⟨k, h1, by omega, h3, fun j hj hj2 => ?_⟩
    by_cases e : j = i
    · subst e; rw [hn]; simp
    · exact h4 j hj (by omega)
theorem autos_none {ss : List ByteArray} {au : List Bool} (h : ∀ j, j < min ss.length au.length → au[j]? ≠ some true) : autos (pairs ss au) = [] := by
  rw [List.eq_nil_iff_forall_not_mem]
  intro p hp
  obtain ⟨i, hi, h1, _⟩ := auto_in hp
  exact h i hi h1
theorem autos_last {ss : List ByteArray} {au : List Bool} {k : Nat} {p : ByteArray} (hk : k < min ss.length au.length) (h1 : au[k]? = some true) (h2 : ss[k]? = some p) (h : ∀ j, k < j → j < min ss.length au.length → au[j]? ≠ some true) : ∃ l, autos (pairs ss au) = l ++ [p] := by
  have e : pairs ss au = (pairs ss au).take (k + 1) ++ (pairs ss au).drop (k + 1) := (List.take_append_drop _ _).symm
  refine ⟨autos ((pairs ss au).take k), ?_⟩
  rw [← show autos ((pairs ss au).take (k + 1)) = autos ((pairs ss au).take k) ++ [p] from autos_next (pair_at h2 h1)]
  conv => lhs; rw [e]
  unfold autos
  rw [List.filter_append, List.map_append]
  have h0 : ((pairs ss au).drop (k + 1)).filter (fun p => p.2) = [] := by
    rw [List.filter_eq_nil_iff]
    intro x hx
    obtain ⟨i, hi, he⟩ := List.getElem_of_mem hx
    rw [List.length_drop, pairs_len] at hi
    have h3 : (pairs ss au)[k + 1 + i]? = some x := by
      rw [← List.getElem?_drop, List.getElem?_eq_getElem (by rw [List.length_drop, pairs_len]; exact hi), he]
    unfold pairs at h3
    rw [List.getElem?_zip_eq_some] at h3
    intro hx2
    refine h (k + 1 + i) (by omega) (by omega) ?_
    rw [h3.2, hx2]
  rw [h0]
  simp
theorem least_snoc (L : List Bs) (m : Nat) (Ds : List (List Bs)) (d : List Bs) : least L m (Ds ++ [d]) = if lc d L < least L m Ds then lc d L else least L m Ds := by
  unfold least
  rw [List.foldl_append]
  rfl
/-- The least after i of the entries. -/
def lst (es : List (ByteArray × Bool)) (L : List Bs) (i : Nat) : Nat := least L L.length ((autos (es.take i)).map dirC)
theorem lst_yes {es : List (ByteArray × Bool)} {L : List Bs} {i : Nat} {p : ByteArray} (h : es[i]? = some (p, true)) : lst es L (i + 1) = if lc (dirC p) L < lst es L i then lc (dirC p) L else lst es L i := by
  unfold lst
  rw [autos_next h, List.map_append]
  exact least_snoc _ _ _ _
theorem lst_no {es : List (ByteArray × Bool)} {L : List Bs} {i : Nat} {p : ByteArray} (h : es[i]? = some (p, false)) : lst es L (i + 1) = lst es L i := by
  unfold lst
  rw [autos_next h]
  simp
theorem lst_le (es : List (ByteArray × Bool)) (L : List Bs) (i : Nat) : lst es L i ≤ L.length := (least_spec L _ _).2.1
theorem low0_last {ps l : List ByteArray} {p : ByteArray} (h : ps = l ++ [p]) : low0 ps = D ((dirC p).take (least (dirC p) (dirC p).length (ps.map dirC))) := by
  cases ps with
  | nil => simp at h
  | cons q r =>
    unfold low0
    have hl : (dirC q :: r.map dirC).getLast? = some (dirC p) := by
      rw [← List.map_cons, h, List.map_append]
      simp
    show D (cutAll (dirC q) (r.map dirC)) = _
    rw [cut_least _ _ hl]
    rfl

theorem drewN_drewN (w : World) (a b : Nat) : (w.drewN a).drewN b = w.drewN (a + b) := by
  induction b with
  | zero => rfl
  | succ b ih => 
    show ((w.drewN a).drewN b).drew = (w.drewN (a + b)).drew
    rw [ih]
theorem cell_drewN (w : World) (n : Nat) (a : Addr) : (w.drewN n).cell? a = w.cell? a := by
  induction n with
  | zero => rfl
  | succ n ih => exact ih
def ModEnd (es : List (ByteArray × Bool)) (w : World) (e : Ending) (w' : World) : Prop := e = .returned (.string (S (low0 (autos es)))) ∧ ∃ m, w' = w.drewN m
def ModRel (es : List (ByteArray × Bool)) (L : List Bs) (n : Nat) (w : World) (gk : Nat) (s10 s11 : Value) (wx : World) : Prop :=
  ∃ i, i ≤ n ∧ gk = n - i ∧ s11 = .int .i64 (i : Nat) ∧ s10 = .int .i64 (lst es L i : Nat) ∧ ∃ m, wx = w.drewN m

set_option maxHeartbeats 4000000 in
set_option maxRecDepth 100000 in
theorem model_any (a0 a1 : Option Addr) (l0 c0 l1 c1 : Nat) (ss : List ByteArray) (au : List Bool) (n : Nat) (w : World) (h0 : InRow w a0 l0 c0 (ss.map Value.string)) (h1 : InRow w a1 l1 c1 (au.map Value.bool)) (hn : n = min l0 l1) (hf : Fit ss au) :
    Calls Tryd.prog 12 #[.slice a0 l0 c0, .slice a1 l1 c1, .int .i64 n] w (ModEnd (pairs ss au) w) := by
  have hlen := h0.len
  have hlen1 := h1.len
  rw [List.length_map] at hlen hlen1
  have hl0 := hf.l0
  have hl1 := hf.l1
  have n0 : n ≤ l0 := by omega
  have n1 : n ≤ l1 := by omega
  have n4 : n ≤ 4096 := by omega
  have hnn : n = min ss.length au.length := by omega
  have H0 := Lib.hid h0
  have H1 := Lib.hid h1
  have HF := Lib.hid (And.intro hf hnn)
  clear hlen hlen1 hl0 hl1 h0 h1 hf hn hnn
  go_enter Tryd.func12, Tryd.ntmps12
  go_wp2_with fail
  go_loop [7, 8] (fun s7 s8 => ∃ (i : Nat) (v : Int), i ≤ n ∧ s8 = .int .i64 (i : Nat) ∧ s7 = .int .i64 v ∧ LastM au i v ∧ -1 ≤ v ∧ v < 4096) (fun _ s8 => n - (intOf s8).toNat)
  case atStart => exact ⟨0, -1, Nat.zero_le _, rfl, rfl, .inl ⟨rfl, fun j hj => by omega⟩, by omega, by omega⟩
  case round =>
    obtain ⟨i, v, hi, rfl, rfl, hm, hv1, hv2⟩ := hrel
    have HM := Lib.hid hm
    clear hm
    by_cases hlt : i < n
    · obtain ⟨z, b, rfl, hbk, hd⟩ := H1.out.get (show i < l1 by omega)
      have lt1 : i < l1 := by omega
      cases b
      · have HX := Lib.hid (HM.out.no hbk)
        clear hbk
        go_wp2_with fail
        go_round
        case rel => exact ⟨i + 1, v, by omega, by go_num, rfl, HX.out, hv1, hv2⟩
        case measure => simp [intOf]; omega
      · have HX := Lib.hid (LastM.yes hbk)
        clear hbk
        go_wp2_with fail
        go_round
        case rel => exact ⟨i + 1, (i : Nat), by omega, by go_num, rfl, HX.out, by omega, by omega⟩
        case measure => simp [intOf]; omega
    · obtain rfl : i = n := by omega
      rcases HM.out with ⟨rfl, hno⟩ | ⟨k, rfl, hk, ht, hno⟩
      · have HE := Lib.hid (autos_none (ss := ss) (au := au) (by rw [← HF.out.2]; exact hno))
        clear hno
        go_wp2_with fail
        go_ret
        refine ⟨?_, 0, rfl⟩
        rw [HE.out]
        rfl
      · obtain ⟨y, p, rfl, hsk, hc⟩ := H0.out.get (show k < l0 by omega)
        have hkm : k < min ss.length au.length := by have := HF.out.2; omega
        have hno2 : ∀ j, k < j → j < min ss.length au.length → au[j]? ≠ some true := by rw [← HF.out.2]; exact hno
        have HL := Lib.hid (autos_last hkm ht hsk hno2)
        have HP := Lib.hid (HF.out.1.ok hkm ht hsk)
        have ltk : k < l0 := by omega
        clear hno hno2 ht hsk hkm
        go_wp2_with fail
        refine (dirOf_any p (cmp p.data.toList) _ HP.out.2.2 HP.out.2.1 HP.out.1).mono ?_
        rintro e w1 ⟨rfl, rfl⟩
        obtain ⟨L, hL⟩ : ∃ L, S (D ((cmp p.data.toList).dropLast)) = L := ⟨_, rfl⟩
        have hLd : L.data.toList = D (dirC p) := by rw [← hL, S_data]; rfl
        have hLc : Comps (dirC p) := HP.out.1.dropLast
        have hLs : L.size ≤ 1048576 := by
          have h1 := HP.out.2.2
          rw [Lib.size_eq, hLd]
          rw [Lib.size_eq, HP.out.2.1] at h1
          unfold dirC
          rw [List.dropLast_eq_take]
          exact Nat.le_trans (len_D_take _ _) h1
        have HLL := Lib.hid (And.intro hLd (And.intro hLc hLs))
        rw [hL]
        clear hL hLd hLc hLs
        go_wp2_with fail
        refine (compCount_any L (dirC p) _ HLL.out.2.2 HLL.out.1 HLL.out.2.1).mono ?_
        rintro e w1 ⟨rfl, rfl⟩
        go_wp2_with fail
        go_loopg [10, 11] i (fun gk s10 s11 wx => ModRel (pairs ss au) (dirC p) i w gk s10 s11 wx)
        case atStart => exact ⟨0, Nat.zero_le _, rfl, rfl, rfl, 0, rfl⟩
        case round =>
          obtain ⟨j, hj, rfl, rfl, rfl, m, rfl⟩ := hrel
          have hle := lst_le (pairs ss au) (dirC p) j
          have hdl : (dirC p).length ≤ 1048576 := by
            by_cases hd0 : dirC p = []
            · rw [hd0]; exact Nat.zero_le _
            · have h1 := D_count HLL.out.2.1 hd0
              have h2 := List.count_le_length (a := (47 : UInt8)) (l := D (dirC p))
              rw [← HLL.out.1, ← Lib.size_eq, HLL.out.1, h1] at h2
              have := HLL.out.2.2
              omega
          by_cases hlj : j < i
          · obtain ⟨z, b, rfl, hbk, hd⟩ := H1.out.get (show j < l1 by omega)
            obtain ⟨y2, q, hy2, hsk2, hc2⟩ := H0.out.get (show j < l0 by omega)
            obtain rfl := Option.some.inj hy2
            have lt1 : j < l1 := by omega
            have lt0 : j < l0 := by omega
            have hd' := (cell_drewN w m (z.add j)).trans hd
            have hc2' := (cell_drewN w m (y.add j)).trans hc2
            cases b
            · have HX := Lib.hid (lst_no (L := dirC p) (pair_at hsk2 hbk))
              clear hbk hsk2 hy2
              obtain ⟨c, hcc⟩ : ∃ c, lst (pairs ss au) (dirC p) j = c := ⟨_, rfl⟩
              rw [hcc] at hle HX ⊢
              clear hcc
              go_wp2_with fail
              go_roundg (i - (j + 1))
              case measure => omega
              case rel => exact ⟨j + 1, by omega, rfl, by go_num, by rw [HX.out], m, rfl⟩
            · have HX := Lib.hid (lst_yes (L := dirC p) (pair_at hsk2 hbk))
              have HQ := Lib.hid (HF.out.1.ok (by have := HF.out.2; omega) hbk hsk2)
              clear hbk hsk2 hy2
              obtain ⟨c, hcc⟩ : ∃ c, lst (pairs ss au) (dirC p) j = c := ⟨_, rfl⟩
              rw [hcc] at hle HX ⊢
              clear hcc
              go_wp2_with fail
              refine (dirOf_any q (cmp q.data.toList) _ HQ.out.2.2 HQ.out.2.1 HQ.out.1).mono ?_
              rintro e w1 ⟨rfl, rfl⟩
              obtain ⟨X, hX⟩ : ∃ X, S (D ((cmp q.data.toList).dropLast)) = X := ⟨_, rfl⟩
              have hXd : X.data.toList = D (dirC q) := by rw [← hX, S_data]; rfl
              have hXc : Comps (dirC q) := HQ.out.1.dropLast
              have hXs : X.size ≤ 1048576 := by
                have h1 := HQ.out.2.2
                rw [Lib.size_eq, hXd]
                rw [Lib.size_eq, HQ.out.2.1] at h1
                unfold dirC
                rw [List.dropLast_eq_take]
                exact Nat.le_trans (len_D_take _ _) h1
              have HXX := Lib.hid (And.intro hXd (And.intro hXc hXs))
              rw [hX]
              clear hX hXd hXc hXs
              go_wp2_with fail
              refine (common_any X L (dirC q) (dirC p) _ HXX.out.2.2 HLL.out.2.2 HXX.out.1 HLL.out.1 HXX.out.2.1 HLL.out.2.1).mono ?_
              rintro e w1 ⟨rfl, m2, rfl⟩
              have hdr := Lib.hid (drewN_drewN w m m2)
              have hll : lc (dirC q) (dirC p) ≤ 1048576 := by
                rw [lc_symm]
                exact Nat.le_trans (lc_le _ _) hdl
              obtain ⟨d, hdd⟩ : ∃ d, lc (dirC q) (dirC p) = d := ⟨_, rfl⟩
              rw [hdd] at HX hll ⊢
              clear hdd
              by_cases hlc : d < c
              · have hx2 := HX.out
                rw [if_pos hlc] at hx2
                have HX2 := Lib.hid hx2
                clear hx2
                go_wp2_with fail
                go_roundg (i - (j + 1))
                case measure => omega
                case rel => exact ⟨j + 1, by omega, rfl, by go_num, by rw [HX2.out], m + m2, by first | rfl | exact hdr.out⟩
              · have hx2 := HX.out
                rw [if_neg hlc] at hx2
                have HX2 := Lib.hid hx2
                clear hx2
                go_wp2_with fail
                go_roundg (i - (j + 1))
                case measure => omega
                case rel => exact ⟨j + 1, by omega, rfl, by go_num, by rw [HX2.out], m + m2, by first | rfl | exact hdr.out⟩
          · obtain rfl : j = i := by omega
            have he : lst (pairs ss au) (dirC p) j = least (dirC p) (dirC p).length ((autos (pairs ss au)).map dirC) := by
              unfold lst
              rw [autos_all (by rw [pairs_len]; exact Nat.le_of_eq HF.out.2.symm)]
            rw [he] at hle ⊢
            have hres : low0 (autos (pairs ss au)) = D ((dirC p).take (least (dirC p) (dirC p).length ((autos (pairs ss au)).map dirC))) := by
              obtain ⟨l, hl⟩ := HL.out
              exact low0_last hl
            obtain ⟨c, hcc⟩ : ∃ c, least (dirC p) (dirC p).length ((autos (pairs ss au)).map dirC) = c := ⟨_, rfl⟩
            rw [hcc] at hle hres ⊢
            have HR := Lib.hid hres
            clear hcc he hres
            go_wp2_with fail
            refine (prefix_any L (dirC p) c _ HLL.out.2.2 HLL.out.1 HLL.out.2.1 hle).mono ?_
            rintro e w1 ⟨rfl, rfl⟩
            go_wp2_with fail
            go_ret
            exact ⟨by rw [HR.out]; rfl, m, rfl⟩
end Go.Proofs.YtcpaepfhjhcaoaaDoor
