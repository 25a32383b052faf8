/-
  The walk of the law that a path is printed relative to the working directory: it returns true for every input; conditions: none (an input beyond the guards answers at once).
-/
import Derived.Test.YtckkpbeiigapeaaDoorWalkC
namespace Go.Proofs.YtckkpbeiigapeaaDoor
open Go.RowKit

theorem infoStr : (Tryd.prog.info? 9).map (fun i => (i.zero, i.size, i.bytes)) = some (some (.string ⟨#[]⟩), 1, 16) := by kernel_rfl
theorem dots_succ (d : Nat) : dots (d + 1) = dots d ++ [⟨#[46, 46]⟩] := List.replicate_succ'
theorem seg_succ {ts : List ByteArray} {k d : Nat} {t : ByteArray} (h : ts[k + d]? = some t) : (ts.drop k).take (d + 1) = (ts.drop k).take d ++ [t] := by
  have h2 : (ts.drop k)[d]? = some t := by rw [List.getElem?_drop]; exact h
  obtain ⟨hk, he⟩ := List.getElem?_eq_some_iff.1 h2
  rw [List.take_succ_eq_append_getElem hk, he]
theorem seg_all {ts : List ByteArray} {k d : Nat} (h : ts.length ≤ k + d) : (ts.drop k).take d = ts.drop k := List.take_of_length_le (by rw [List.length_drop]; omega)
theorem one_at (w : World) (v : Value) (t : TypeId) : ∀ j u, [v][j]? = some u → (w.alloc (.cells #[v] t)).cell? ((⟨w.heap.size, 0, none⟩ : Addr).add j) = some u := by
  intro j u hu
  cases j with
  | zero =>
    have : v = u := by simpa using hu
    subst this
    rw [Addr.add_zero']
    go_simp
  | succ j => simp at hu
theorem inRow_own {w : World} {b g e n cap : Nat} {l : List ByteArray} (h : w.ownsRow b e 1 (.slice (some ⟨g, 0, none⟩) n cap) n (l.map Value.string)) (hn : n ≤ cap) (hc : cap ≤ maxLen) (hl : l.length = n) : InRow w (some ⟨g, 0, none⟩) n cap (l.map Value.string) :=
  .inr ⟨_, rfl, hn, hc, by rw [List.length_map, hl], fun i u hu => h.cells rfl i u hu⟩
theorem rel_none {C P : List Bs} {k : Nat} (h : way C P = parts C P k) (h1 : C.length ≤ k) (h2 : P.length ≤ k) : relT C P = [46] := by
  have hw : way C P = [] := by
    rw [h]
    unfold parts
    rw [List.drop_eq_nil_of_le h1, List.drop_eq_nil_of_le h2]
    rfl
  unfold relT
  rw [if_pos]
  by_cases e : C = P
  · exact e
  · exact absurd hw (way_ne C P e)
theorem rel_some {ss ts : List ByteArray} {k D : Nat} (h : way (Ls ss) (Ls ts) = parts (Ls ss) (Ls ts) k) (hD : D = (Ls ss).length - k) (hn : D ≠ 0 ∨ k < (Ls ts).length) : relT (Ls ss) (Ls ts) = J (Ls (dots D ++ ts.drop k)) := by
  have e : Ls (dots D ++ ts.drop k) = way (Ls ss) (Ls ts) := by
    rw [h, Ls_append, hD, Ls_dots, Ls_drop]
    rfl
  unfold relT
  rw [e, if_neg]
  intro he
  have hw := way_self (Ls ts)
  rw [he] at h
  rw [hw] at h
  have h3 := congrArg List.length h
  unfold parts at h3
  rw [List.length_append, List.length_map, List.length_drop, List.length_nil] at h3
  rw [he] at hD
  omega

/-- While the dots are laid. -/
def DotRel (w : World) (g k l0 N gk : Nat) (s8 s9 : Value) (wx : World) : Prop :=
  ∃ d, k + d ≤ l0 ∧ gk = l0 - (k + d) ∧ s8 = .slice (some ⟨g, 0, none⟩) d N ∧ s9 = .int .i64 ((k + d : Nat) : Int) ∧ wx.ownsRow g 9 1 (.slice (some ⟨g, 0, none⟩) d N) d ((dots d).map Value.string) ∧ Below w.heap.size w wx
/-- While the segments are laid. -/
def SegRel (w : World) (g : Nat) (ts : List ByteArray) (D k l1 N gk : Nat) (s8 s9 : Value) (wx : World) : Prop :=
  ∃ d, k + d ≤ l1 ∧ gk = l1 - (k + d) ∧ s8 = .slice (some ⟨g, 0, none⟩) (D + d) N ∧ s9 = .int .i64 ((k + d : Nat) : Int) ∧ wx.ownsRow g 9 1 (.slice (some ⟨g, 0, none⟩) (D + d) N) (D + d) ((dots D ++ (ts.drop k).take d).map Value.string) ∧ Below w.heap.size w wx

set_option maxHeartbeats 8000000 in
set_option maxRecDepth 100000 in
theorem fnPrettyPrintPathIsRelativeToCwd_walk (a0 : Option Addr) (l0 c0 : Nat) (ss : List ByteArray) (a1 : Option Addr) (l1 c1 : Nat) (ts : List ByteArray) (w : World) (h0 : InRow w a0 l0 c0 (ss.map Value.string)) (hs : ∀ s ∈ ss, s.size ≤ maxLen) (h1 : InRow w a1 l1 c1 (ts.map Value.string)) (ht : ∀ s ∈ ts, s.size ≤ maxLen) (_ : True) :
    Calls Tryd.prog 4 #[.slice a0 l0 c0, .slice a1 l1 c1] w fun e w' => e = .returned (.bool true) ∧ Below w.heap.size w w' := by
  have hlen := h0.len
  have hlen1 := h1.len
  rw [List.length_map] at hlen hlen1
  have H0 := Lib.hid h0
  have HS := Lib.hid hs
  have H1 := Lib.hid h1
  have HT := Lib.hid ht
  have HL := Lib.hid (And.intro hlen hlen1)
  clear h0 hs h1 ht hlen hlen1
  go_enter Tryd.func4, Tryd.ntmps4
  go_wp2_with fail
  refine (bytesB_any a0 a1 l0 c0 l1 c1 ss ts _ H0.out HS.out H1.out HT.out).mono ?_
  rintro e w' ⟨b, rfl, rfl, hb⟩
  cases b
  · clear hb
    go_wp2_with fail
    go_ret
    exact ⟨rfl, Below.refl _ _⟩
  have htot := hb rfl
  clear hb
  have hsb0 := fun wx (h : InRow wx a0 l0 c0 (ss.map Value.string)) => strsBytes_any a0 l0 c0 ss wx h (by omega)
  have hsb1 := fun wx (h : InRow wx a1 l1 c1 (ts.map Value.string)) => strsBytes_any a1 l1 c1 ts wx h (by omega)
  obtain ⟨m0, hm0⟩ : ∃ m, tot ss = m := ⟨_, rfl⟩
  obtain ⟨m1, hm1⟩ : ∃ m, tot ts = m := ⟨_, rfl⟩
  rw [hm0] at hsb0
  rw [hm1] at hsb1
  rw [hm0, hm1] at htot
  have HM := Lib.hid (And.intro hm0 (And.intro hm1 (And.intro hsb0 hsb1)))
  clear hm0 hm1 hsb0 hsb1
  go_wp2_with fail
  refine (HM.out.2.2.1 _ H0.out).mono ?_
  rintro e w' ⟨rfl, rfl⟩
  go_wp2_with fail
  refine (HM.out.2.2.2 _ H1.out).mono ?_
  rintro e w' ⟨rfl, rfl⟩
  by_cases hbig : 16 * l0 + m0 + (16 * l1 + m1) ≤ 1048576
  case neg =>
    go_wp2_with fail
    go_ret
    exact ⟨rfl, Below.refl _ _⟩
  by_cases z0 : l0 = 0
  · have q : ((l0 : Int) == 0) = true := by rw [z0]; rfl
    go_wp2_with fail
    go_ret
    exact ⟨rfl, Below.refl _ _⟩
  have q0 : ((l0 : Int) == 0) = false := by rw [beq_eq_false_iff_ne]; omega
  by_cases z1 : l1 = 0
  · have q : ((l1 : Int) == 0) = true := by rw [z1]; rfl
    go_wp2_with fail
    go_ret
    exact ⟨rfl, Below.refl _ _⟩
  have q1 : ((l1 : Int) == 0) = false := by rw [beq_eq_false_iff_ne]; omega
  go_wp2_with fail
  refine (allValid_any a0 l0 c0 ss _ H0.out HS.out (by omega)).mono ?_
  rintro e w' ⟨b, rfl, rfl, hb⟩
  cases b
  · clear hb
    go_wp2_with fail
    go_ret
    exact ⟨rfl, Below.refl _ _⟩
  have HV := Lib.hid (hb rfl)
  clear hb
  go_wp2_with fail
  refine (allValid_any a1 l1 c1 ts _ H1.out HT.out (by omega)).mono ?_
  rintro e w' ⟨b, rfl, rfl, hb⟩
  cases b
  · clear hb
    go_wp2_with fail
    go_ret
    exact ⟨rfl, Below.refl _ _⟩
  have hpre : Pre ss ts l0 l1 := ⟨HL.out.1, HL.out.2, by have := HM.out.1; have := HM.out.2.1; omega, HV.out, hb rfl, z0, z1⟩
  clear hb
  have hadd0 := slash_add (J (Ls ss)) (by have := hpre.z0; omega)
  have hadd1 := slash_add (J (Ls ts)) (by have := hpre.z1; omega)
  have HP := Lib.hid hpre
  clear hpre
  go_wp2_with fail
  refine (join_any a0 l0 c0 ss _ H0.out (by have := HM.out.1; omega)).mono ?_
  rintro e w1 ⟨rfl, hb1⟩
  have HB1 := Lib.hid hb1
  clear hb1
  go_wp2_with fail
  refine (join_any a1 l1 c1 ts _ (H1.out.up HB1.out) (by have := HM.out.2.1; omega)).mono ?_
  rintro e w2 ⟨rfl, hb2⟩
  have HB2 := Lib.hid (HB1.out.trans (hb2.mono HB1.out.size))
  clear hb2
  go_upto_block 0 with fail
  clear hadd0 hadd1 q0 q1
  have hl0 : l0 ≤ 1048576 := by omega
  have hl1 : l1 ≤ 1048576 := by omega
  go_cut [7] (fun s7 wx => ∃ k : Nat, s7 = .int .i64 k ∧ Share (Ls ss) (Ls ts) k ∧ way (Ls ss) (Ls ts) = parts (Ls ss) (Ls ts) k ∧ Below w.heap.size w wx)
  case first =>
    go_wp2_with fail
    go_loopg [7] l0 (fun g s7 wx => ∃ k : Nat, g = l0 - k ∧ s7 = .int .i64 k ∧ Share (Ls ss) (Ls ts) k ∧ Below w.heap.size w wx)
    case atStart => exact ⟨0, by omega, rfl, ⟨by simp, Nat.zero_le _, Nat.zero_le _⟩, HB2.out⟩
    case round =>
      obtain ⟨k, rfl, rfl, hsh, hbw⟩ := hrel
      have hk0 := hsh.2.1
      have hk1 := hsh.2.2
      rw [Ls_len, HP.out.n0] at hk0
      rw [Ls_len, HP.out.n1] at hk1
      have HH := Lib.hid (And.intro hsh hbw)
      clear hsh hbw
      by_cases lt0 : k < l0
      · by_cases lt1 : k < l1
        · obtain ⟨x, s, rfl, hsk, hc⟩ := (H0.out.up HH.out.2).get lt0
          obtain ⟨y, t, rfl, htk, hd⟩ := (H1.out.up HH.out.2).get lt1
          have HK := Lib.hid (And.intro (Ls_get hsk) (Ls_get htk))
          clear hsk htk
          cases q : (s.toList == t.toList)
          · have HX := Lib.hid (HH.out.1.way (.inr (.inr (by
              rw [HK.out.1, HK.out.2]
              intro e
              exact seg_no q (Option.some.inj e)))))
            go_wp2_with fail
            go_big_quiet (fail)
            go_wp2_with fail
            go_meet
            exact ⟨k, rfl, HH.out.1, HX.out, below_drewN HH.out.2 nq⟩
          · have HX := Lib.hid (HH.out.1.next HK.out.1 (by rw [HK.out.2, seg_eq q]))
            go_wp2_with fail
            go_big_quiet (fail)
            go_wp2_with fail
            go_roundg (l0 - (k + 1))
            case measure => omega
            case rel => exact ⟨k + 1, rfl, by go_num, HX.out, below_drewN HH.out.2 nq⟩
        · have HX := Lib.hid (HH.out.1.way (.inr (.inl (by rw [Ls_len, HP.out.n1]; omega))))
          obtain ⟨x, s, rfl, hsk, hc⟩ := (H0.out.up HH.out.2).get lt0
          clear hsk hc
          go_wp2_with fail
          go_big_quiet (fail)
          go_wp2_with fail
          go_meet
          exact ⟨k, rfl, HH.out.1, HX.out, below_drewN HH.out.2 nq⟩
      · have HX := Lib.hid (HH.out.1.way (.inl (by rw [Ls_len, HP.out.n0]; omega)))
        go_wp2_with fail
        go_big_quiet (fail)
        go_wp2_with fail
        go_meet
        exact ⟨k, rfl, HH.out.1, HX.out, below_drewN HH.out.2 nq⟩
  case rest =>
    obtain ⟨k, rfl, hsh, hway, hbw⟩ := hcut
    have hk0 := hsh.2.1
    have hk1 := hsh.2.2
    rw [Ls_len, HP.out.n0] at hk0
    rw [Ls_len, HP.out.n1] at hk1
    have HH := Lib.hid (And.intro hsh (And.intro hway hbw))
    clear hsh hway hbw
    obtain ⟨i0, hi0, hz0, hz1, hz2⟩ := info_parts infoStr
    have HI := Lib.hid (And.intro hi0 (And.intro hz0 (And.intro hz1 hz2)))
    clear hi0 hz0 hz1 hz2
    go_wp2_with (at_make; refine wpList_make_own _ rfl _ _ 22 rfl wc.heap.size 9 i0 (.string ⟨#[]⟩) 1 Tryd.underlying22 HI.out.1 HI.out.2.1 HI.out.2.2.1 _ _ _ (l0 + l1) rfl rfl (by omega) (by rw [HI.out.2.2.2]; omega) (by unfold maxLen; omega) (Nat.le_refl _) ?_; intro w3 hown hgrow)
    have HW3 := Lib.hid (HH.out.2.2.grown hgrow HH.out.2.2.size (fun k hk => by cases hk))
    have HO3 := Lib.hid hown
    clear hown hgrow
    go_loopg [8, 9] (l0 - k) (fun g s8 s9 wx => DotRel w wc.heap.size k l0 (l0 + l1) g s8 s9 wx)
    case atStart => exact ⟨0, by omega, by simp, rfl, rfl, HO3.out, HW3.out⟩
    case round =>
      obtain ⟨d, hd, rfl, rfl, rfl, hown, hbw⟩ := hrel
      have HR := Lib.hid (And.intro hown hbw)
      clear hown hbw
      by_cases hlt : k + d < l0
      · go_wp2_with (at_builtin; refine wpList_append_fits _ rfl _ _ 22 rfl wc.heap.size 9 i0 1 Tryd.underlying22 HI.out.1 HI.out.2.2.1 wc.heap.size d (l0 + l1) ((dots d).map Value.string) rfl (HR.out.1.alloc _) ⟨wr.heap.size, 0, none⟩ 1 1 [.string ⟨#[46, 46]⟩] rfl rfl (one_at _ _ _) (by intro u hu; simp at hu; subst hu; rfl) (by omega) ?_; intro w4 hown4 hg4)
        have HR4 := Lib.hid (And.intro hown4 ((HR.out.2.alloc HR.out.2.size _).grown hg4 (Nat.le_trans HR.out.2.size (by simp)) (fun k hk => by cases hk; exact HH.out.2.2.size)))
        clear hown4 hg4
        go_roundg (l0 - (k + (d + 1)))
        case measure => omega
        case rel => exact ⟨d + 1, by omega, rfl, rfl, by go_num, by rw [dots_succ]; simpa using HR4.out.1, HR4.out.2⟩
      · obtain ⟨D, hD⟩ : ∃ D, D = d := ⟨d, rfl⟩
        subst hD
        have hDl : k + D = l0 := by omega
        have HD := Lib.hid hDl
        have hD2 : D ≤ l0 := by omega
        clear hDl
        go_wp2_with fail
        go_loopg [8, 10] (l1 - k) (fun g s8 s9 wx => SegRel w wc.heap.size ts D k l1 (l0 + l1) g s8 s9 wx)
        case atStart => exact ⟨0, by omega, by simp, rfl, rfl, by simpa using HR.out.1, HR.out.2⟩
        case round =>
          obtain ⟨d, hd, rfl, rfl, rfl, hown, hbw⟩ := hrel
          have HR := Lib.hid (And.intro hown hbw)
          clear hown hbw
          by_cases hlt : k + d < l1
          · obtain ⟨y, t, rfl, htk, hc⟩ := (H1.out.up HR.out.2).get hlt
            have HK := Lib.hid htk
            clear htk
            go_wp2_with (at_builtin; refine wpList_append_fits _ rfl _ _ 22 rfl wc.heap.size 9 i0 1 Tryd.underlying22 HI.out.1 HI.out.2.2.1 wc.heap.size (D + d) (l0 + l1) ((dots D ++ (ts.drop k).take d).map Value.string) rfl (HR.out.1.alloc _) ⟨wr.heap.size, 0, none⟩ 1 1 [.string t] rfl rfl (one_at _ _ _) (by intro u hu; simp at hu; subst hu; rfl) (by omega) ?_; intro w4 hown4 hg4)
            have HR4 := Lib.hid (And.intro hown4 ((HR.out.2.alloc HR.out.2.size _).grown hg4 (Nat.le_trans HR.out.2.size (by simp)) (fun k hk => by cases hk; exact HH.out.2.2.size)))
            clear hown4 hg4
            go_roundg (l1 - (k + (d + 1)))
            case measure => omega
            case rel => exact ⟨d + 1, by omega, rfl, by rw [Nat.add_assoc], by go_num, by rw [seg_succ HK.out, ← Nat.add_assoc]; simpa using HR4.out.1, HR4.out.2⟩
          · have hal := seg_all (ts := ts) (k := k) (d := d) (by rw [HP.out.n1]; omega)
            rw [hal] at HR
            have HE := Lib.hid (And.intro hal (show k + d = l1 by omega))
            clear hal
            have HZ := Lib.hid (zz8_any (Ls ss) (Ls ts) · HP.out.ne0 HP.out.ne1 HP.out.s0 HP.out.s1 (by have := HP.out.z0; omega) (by have := HP.out.z1; omega))
            by_cases hn : D + d = 0
            · have q : ((D + d : Nat) : Int) = 0 := by omega
              have hrt := Lib.hid (rel_none (HH.out.2.1) (show (Ls ss).length ≤ k by rw [Ls_len, HP.out.n0]; have := HD.out; omega) (show (Ls ts).length ≤ k by rw [Ls_len, HP.out.n1]; have := HE.out.2; omega))
              go_wp2_with fail
              refine (HZ.out _).mono ?_
              rintro e w5 ⟨rfl, hb5⟩
              rw [hrt.out]
              go_wp2_with fail
              go_ret
              exact ⟨by rw [S_toList]; rfl, HR.out.2.trans (hb5.mono HR.out.2.size)⟩
            · have hir := inRow_own HR.out.1 (by omega) (by unfold maxLen; omega) (by
                rw [List.length_append, List.length_drop, HP.out.n1]
                unfold dots
                rw [List.length_replicate]
                have := HE.out.2
                omega)
              have HJ := Lib.hid (fun (hz : D + d + tot (dots D ++ ts.drop k) ≤ 4194304) => join_any (some ⟨wc.heap.size, 0, none⟩) (D + d) (l0 + l1) (dots D ++ ts.drop k) wr hir hz)
              clear hir
              have hzz : D + d + tot (dots D ++ ts.drop k) ≤ 4194304 := by
                rw [tot_append, tot_dots]
                have h1 := tot_drop_le ts k
                have h2 := HP.out.z
                omega
              have HJ2 := Lib.hid (HJ.out hzz)
              clear hzz
              have hrt := Lib.hid (rel_some (ss := ss) (ts := ts) (k := k) (D := D) HH.out.2.1 (show D = (Ls ss).length - k by rw [Ls_len, HP.out.n0]; have := HD.out; omega) (by
                by_cases hD0 : D = 0
                · right
                  rw [Ls_len, HP.out.n1]
                  have := HE.out.2
                  omega
                · left
                  exact hD0))
              have q : ¬ ((D + d : Nat) : Int) ≤ 0 := by omega
              go_wp2_with fail
              refine HJ2.out.mono ?_
              rintro e w4 ⟨rfl, hb4⟩
              have HB4 := Lib.hid (HR.out.2.trans (hb4.mono HR.out.2.size))
              clear hb4
              go_wp2_with fail
              refine (HZ.out _).mono ?_
              rintro e w5 ⟨rfl, hb5⟩
              rw [hrt.out]
              go_wp2_with fail
              go_ret
              exact ⟨by simp, HB4.out.trans (hb5.mono HB4.out.size)⟩
end Go.Proofs.YtckkpbeiigapeaaDoor
