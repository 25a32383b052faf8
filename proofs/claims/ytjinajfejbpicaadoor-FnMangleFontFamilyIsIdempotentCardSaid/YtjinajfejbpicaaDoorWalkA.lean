/-
  The walk of the law 'mangling a font family again changes nothing'; conditions: the tables as listed, the arguments' rows.
-/
import Derived.Test.YtjinajfejbpicaaDoorBtk
namespace Go.Proofs.YtjinajfejbpicaaDoor
open Go.RowKit

theorem mangle_again {mw : Bool} {T o : List Tok} (h : mangle V G mw (T.length + 1) T = some o) : o ≠ [] ∧ mangle V G mw (o.length + 1) o = some o := by
  rw [mangle_model gen_low] at h
  obtain ⟨h0, h1⟩ := model_again gen_low _ _ _ h
  refine ⟨h0, ?_⟩
  rw [mangle_fuel (o.length + 1) (o.length + T.length + 2) o (by omega) (by omega), mangle_model gen_low]
  exact h1 _ (by omega)

set_option maxHeartbeats 4000000 in
set_option maxRecDepth 100000 in
theorem fnMangleFontFamilyIsIdempotent_walk (a0 : Option Addr) (len0 cap0 : Nat) (z0 : List Int) (a1 : Option Addr) (len1 cap1 : Nat) (z1 : List ByteArray) (a2 : Bool) (w : World) (w0 : InRow w a0 len0 cap0 (z0.map (Value.int .u8))) (_ww0 : ∀ n ∈ z0, (Lit.int .u8 n).wf = true) (w1 : InRow w a1 len1 cap1 (z1.map Value.string)) (ww1 : ∀ s ∈ z1, s.size ≤ maxLen) (hT : Tabs w) :
    Calls Tryd.prog 3 #[.slice a0 len0 cap0, .slice a1 len1 cap1, .bool a2] w fun e w' => e = .returned (.bool true) ∧ Below w.heap.size w w' := by
  have hc0 := w0.cap
  have hl0 := w0.len
  have hl1 := w1.len
  rw [List.length_map] at hl0 hl1
  have H0 := Lib.hid (And.intro w0 (And.intro w1 (And.intro ww1 (And.intro hT (And.intro hl0 hl1)))))
  have HM := Lib.hid (show len0 ≤ maxLen from Nat.le_trans hc0.1 hc0.2)
  clear w0 w1 ww1 hT hc0 hl0 hl1
  have q := Lib.run_eql_slice_nil (P := Tryd.prog)
  go_enter Tryd.func3, Tryd.ntmps3
  go_wp2_with fail
  refine (bytes6_any a0 a1 len0 cap0 len1 cap1 a2 z1 w H0.out.2.1 H0.out.2.2.1 HM.out).mono ?_
  rintro e w' ⟨b, rfl, rfl, _⟩
  cases b
  · go_wp2_with fail
    go_ret
    exact ⟨rfl, Below.refl _ _⟩
  go_wp2_with fail
  refine (sizeOK_any a0 a1 len0 cap0 len1 cap1 z1 w H0.out.2.1 H0.out.2.2.1 HM.out).mono ?_
  rintro e w' ⟨b, rfl, rfl, hsz⟩
  cases b
  · clear hsz
    go_wp2_with fail
    go_ret
    exact ⟨rfl, Below.refl _ _⟩
  have hS := hsz rfl
  clear hsz
  have HS := Lib.hid hS
  have hL0 : len0 ≤ 1048576 := by omega
  have hL1 : len1 ≤ 1048576 := by omega
  clear hS
  go_wp2_with fail
  refine (cloneK a0 len0 cap0 z0 w H0.out.1 hL0).mono ?_
  rintro e wa ⟨A, c, rfl, hra, hba⟩
  have HA := Lib.hid (And.intro hra hba)
  clear hra hba
  go_wp2_with fail
  refine (cloneS a1 len1 cap1 z1 wa (H0.out.2.1.up HA.out.2) hL1).mono ?_
  rintro e wb ⟨A', c', rfl, hrb, hbb⟩
  have HB := Lib.hid (And.intro hrb (And.intro (HA.out.1.up hbb) (HA.out.2.trans (hbb.mono HA.out.2.size))))
  clear hrb hbb
  go_wp2_with fail
  refine (build_any A A' len0 c len1 c' z0 z1 wb HB.out.2.1 HB.out.1 hL0).mono ?_
  rintro e wc ⟨g, rfl, htk, hg, hbc⟩
  have hbc0 := HB.out.2.2.trans (hbc.mono HB.out.2.2.size)
  have hwt := mkToks_wt z0 z1
  have hkl := H0.out.2.2.2.2.1
  rw [hkl] at htk hwt ⊢
  have hln := mkToks_len z0 z1
  rw [hkl] at hln
  have hwt2 : wt (mkToks z0 z1) ≤ 2097152 := by have := HS.out; omega
  obtain ⟨T, hTT⟩ : ∃ T, mkToks z0 z1 = T := ⟨_, rfl⟩
  rw [hTT] at htk hwt2 hln
  have HC := Lib.hid (And.intro htk (And.intro hbc0 (And.intro hwt2 hln)))
  clear htk hg hbc hbc0 hwt hkl hwt2 hln hTT
  go_wp2_with fail
  refine (zz_any a2 _ len0 len0 T wc (H0.out.2.2.2.1.up HC.out.2.1) HC.out.1 (fun x hx => by have := wt_mem hx; have := HC.out.2.2.1; omega) (by have := HC.out.2.2.1; omega)).mono ?_
  cases hr : mangle V G a2 (T.length + 1) T with
  | none =>
    rintro e wd ⟨hbd, rfl⟩
    have HD := Lib.hid (HC.out.2.1.trans (hbd.mono HC.out.2.1.size))
    clear hbd hr
    go_wp2_with fail
    go_ret
    exact ⟨rfl, HD.out⟩
  | some o =>
    rintro e wd ⟨hbd, A2, c2, rfl, htk⟩
    have hag := mangle_again hr
    have hwo := mangle_wt _ _ _ hr
    have hwl := wt_len o
    have hpos : 0 < o.length := List.length_pos_iff.2 hag.1
    have hD0 := HC.out.2.1.trans (hbd.mono HC.out.2.1.size)
    obtain ⟨g2, o2, rfl, _⟩ : ∃ g2 o2, A2 = some ⟨g2, o2, none⟩ ∧ True := by
      rcases htk.2.2.2 with h | ⟨g2, o2, h, _⟩
      · exact absurd h hag.1
      · exact ⟨g2, o2, h, trivial⟩
    have hbound : wt o ≤ 4194304 := by have := HC.out.2.2.1; omega
    have hol : o.length ≤ 8388608 := by omega
    have HD := Lib.hid (And.intro hD0 (And.intro htk (And.intro hag.2 (And.intro hbound hol))))
    obtain ⟨n, hn⟩ : ∃ n, o.length = n := ⟨_, rfl⟩
    have hcap := htk.2.1
    have hcap2 := htk.2.2.1
    unfold maxLen at hcap2
    rw [hn] at hpos hcap
    have HN := Lib.hid hn
    rw [hn]
    clear hbd htk hag hwo hwl hD0 hbound hol hr hn
    have hp1 : (0 : Int) < (n : Int) := by omega
    go_wp2_with fail
    refine (show Calls Tryd.prog 12 #[.slice (some ⟨g2, o2, none⟩) (n : Nat) c2] wd (CloneTEnd o wd) by rw [← HN.out]; exact cloneT_any g2 o2 c2 o wd HD.out.2.1 HD.out.2.2.2.2).mono ?_
    rintro e we ⟨g3, rfl, htk3, _, hbe⟩
    rw [HN.out] at htk3 ⊢
    have HE := Lib.hid (And.intro htk3 (And.intro (HD.out.1.trans (hbe.mono HD.out.1.size)) (HD.out.2.1.up hbe)))
    clear htk3 hbe
    go_wp2_with fail
    refine (zz_any a2 _ n n o we (H0.out.2.2.2.1.up HE.out.2.1) HE.out.1 (fun x hx => by have := wt_mem hx; have := HD.out.2.2.2.1; omega) (by have := HD.out.2.2.2.1; omega)).mono ?_
    rw [HD.out.2.2.1]
    rintro e wf ⟨hbf, A4, c4, rfl, htk4⟩
    rw [HN.out] at htk4 ⊢
    have HF := Lib.hid (And.intro htk4 (And.intro (HE.out.2.1.trans (hbf.mono HE.out.2.1.size)) (HE.out.2.2.up hbf)))
    clear htk4 hbf
    go_wp2_with fail
    refine (same_any A4 _ n c4 c2 o wf HF.out.1 (by rw [← HN.out]; exact HF.out.2.2)).mono ?_
    rintro e wg ⟨rfl, m, rfl⟩
    go_wp2_with fail
    go_ret
    exact ⟨rfl, HF.out.2.1.trans ⟨rfl, rfl, rfl, Nat.le_refl _, fun _ _ => rfl⟩⟩
end Go.Proofs.YtjinajfejbpicaaDoor
