/-
  The walk of the law 'mangling a font family is judging the groups between the commas'; conditions: the tables as listed, the arguments' rows.
-/
import Derived.Test.YtjinajfejbpicaaDoorMdf
namespace Go.Proofs.YtjinajfejbpicaaDoor
open Go.RowKit

set_option maxHeartbeats 4000000 in
set_option maxRecDepth 100000 in
theorem fnMangleFontFamilyMatchesCommaGroupModel_walk (a0 : Option Addr) (len0 cap0 : Nat) (z0 : List Int) (a1 : Option Addr) (len1 cap1 : Nat) (z1 : List ByteArray) (a2 : Bool) (w : World) (w0 : InRow w a0 len0 cap0 (z0.map (Value.int .u8))) (_ww0 : ∀ n ∈ z0, (Lit.int .u8 n).wf = true) (w1 : InRow w a1 len1 cap1 (z1.map Value.string)) (ww1 : ∀ s ∈ z1, s.size ≤ maxLen) (hT : Tabs w) :
    Calls Tryd.prog 4 #[.slice a0 len0 cap0, .slice a1 len1 cap1, .bool a2] w fun e w' => e = .returned (.bool true) ∧ Below w.heap.size w w' := by
  have hc0 := w0.cap
  have hl0 := w0.len
  have hl1 := w1.len
  rw [List.length_map] at hl0 hl1
  have H0 := Lib.hid (And.intro w0 (And.intro w1 (And.intro ww1 (And.intro hT (And.intro hl0 hl1)))))
  have HM := Lib.hid (show len0 ≤ maxLen from Nat.le_trans hc0.1 hc0.2)
  clear w0 w1 ww1 hT hc0 hl0 hl1
  have q := Lib.run_eql_slice_nil (P := Tryd.prog)
  go_enter Tryd.func4, Tryd.ntmps4
  go_wp2_with fail
  refine (bytes14_any a0 a1 len0 cap0 len1 cap1 a2 z1 w H0.out.2.1 H0.out.2.2.1 HM.out).mono ?_
  rintro e w' ⟨b, rfl, rfl, _⟩
  cases b
  · go_wp2_with fail
    go_ret
    exact ⟨rfl, Below.refl _ _⟩
  go_wp2_with fail
  refine (sizeOK_any a0 a1 len0 cap0 len1 cap1 z1 w H0.out.2.1 H0.out.2.2.1 HM.out).mono ?_
  rintro e w' ⟨b, rfl, rfl, hsz⟩
  cases b
  · clear hsz
    go_wp2_with fail
    go_ret
    exact ⟨rfl, Below.refl _ _⟩
  have hS := hsz rfl
  clear hsz
  have HS := Lib.hid hS
  have hL0 : len0 ≤ 1048576 := by omega
  have hL1 : len1 ≤ 1048576 := by omega
  clear hS
  go_wp2_with fail
  refine (cloneK a0 len0 cap0 z0 w H0.out.1 hL0).mono ?_
  rintro e wa ⟨A, c, rfl, hra, hba⟩
  have HA := Lib.hid (And.intro hra hba)
  clear hra hba
  go_wp2_with fail
  refine (cloneS a1 len1 cap1 z1 wa (H0.out.2.1.up HA.out.2) hL1).mono ?_
  rintro e wb ⟨A', c', rfl, hrb, hbb⟩
  have HB := Lib.hid (And.intro hrb (And.intro (HA.out.1.up hbb) (HA.out.2.trans (hbb.mono HA.out.2.size))))
  clear hrb hbb
  go_wp2_with fail
  refine (gm_any wb).mono ?_
  rintro e wm ⟨bm, rfl, hmap, hbm⟩
  have HB2 := Lib.hid (And.intro (HB.out.1.up hbm) (And.intro (HB.out.2.1.up hbm) (And.intro (HB.out.2.2.trans (hbm.mono HB.out.2.2.size)) hmap)))
  clear hbm hmap
  go_wp2_with fail
  refine (build_any A A' len0 c len1 c' z0 z1 wm HB2.out.2.1 HB2.out.1 hL0).mono ?_
  rintro e wc ⟨g, rfl, htk, hg, hbc⟩
  have hbc0 := HB2.out.2.2.1.trans (hbc.mono HB2.out.2.2.1.size)
  have hmc := HB2.out.2.2.2.up hbc
  have hwt := mkToks_wt z0 z1
  have hkl := H0.out.2.2.2.2.1
  rw [hkl] at htk hwt ⊢
  have hln := mkToks_len z0 z1
  rw [hkl] at hln
  have hwt2 : wt (mkToks z0 z1) ≤ 2097152 := by have := HS.out; omega
  obtain ⟨T, hTT⟩ : ∃ T, mkToks z0 z1 = T := ⟨_, rfl⟩
  rw [hTT] at htk hwt2 hln
  have HC := Lib.hid (And.intro htk (And.intro hbc0 (And.intro hwt2 (And.intro hln hmc))))
  clear htk hg hbc hbc0 hwt hkl hwt2 hln hTT hmc
  go_wp2_with fail
  refine (zz_any a2 _ len0 len0 T wc (H0.out.2.2.2.1.up HC.out.2.1) HC.out.1 (fun x hx => by have := wt_mem hx; have := HC.out.2.2.1; omega) (by have := HC.out.2.2.1; omega)).mono ?_
  have hmod : mangle V G a2 (T.length + 1) T = MM a2 T := mangle_model gen_low _ _
  rw [hmod]
  have HMD := Lib.hid (fun (wx : World) (hb : Below w.heap.size w wx) (hbc : Below wc.heap.size wc wx) => by
    have h := mdl_any g 0 len0 T a2 bm wx (by rw [HC.out.2.2.2.1]; exact HC.out.1.up hbc) (H0.out.2.2.2.1.up hb) (HC.out.2.2.2.2.up hbc) (fun x hx => by have := wt_mem hx; have := HC.out.2.2.1; omega) (by have := HC.out.2.2.1; omega)
    rw [HC.out.2.2.2.1] at h
    exact h)
  cases hr : MM a2 T with
  | none =>
    rw [hr] at HMD
    rintro e wd ⟨hbd, rfl⟩
    have HD := Lib.hid (And.intro (HC.out.2.1.trans (hbd.mono HC.out.2.1.size)) hbd)
    clear hbd hr hmod
    go_wp2_with fail
    refine (HMD.out wd HD.out.1 HD.out.2).mono ?_
    rintro e we ⟨hbe, rfl⟩
    have HE := Lib.hid (HD.out.1.trans (hbe.mono HD.out.1.size))
    clear hbe
    go_wp2_with fail
    go_ret
    exact ⟨rfl, HE.out⟩
  | some o =>
    rw [hr] at HMD
    rintro e wd ⟨hbd, A2, c2, rfl, htk⟩
    have HD := Lib.hid (And.intro (HC.out.2.1.trans (hbd.mono HC.out.2.1.size)) (And.intro hbd htk))
    clear hbd htk hr hmod
    obtain ⟨n, hn⟩ : ∃ n, o.length = n := ⟨_, rfl⟩
    have HN := Lib.hid hn
    rw [hn]
    clear hn
    go_wp2_with fail
    refine (HMD.out wd HD.out.1 HD.out.2.1).mono ?_
    rintro e we ⟨hbe, v, rfl, ho⟩
    obtain ⟨A4, c4, rfl, htk4⟩ := own_tok ho rfl
    rw [HN.out] at htk4 ⊢
    have HF := Lib.hid (And.intro htk4 (And.intro (HD.out.1.trans (hbe.mono HD.out.1.size)) (HD.out.2.2.up hbe)))
    clear htk4 hbe ho
    go_wp2_with fail
    refine (same_any A2 A4 n c2 c4 o we (by rw [← HN.out]; exact HF.out.2.2) HF.out.1).mono ?_
    rintro e wg ⟨rfl, m, rfl⟩
    go_wp2_with fail
    go_ret
    exact ⟨rfl, HF.out.2.1.trans ⟨rfl, rfl, rfl, Nat.le_refl _, fun _ _ => rfl⟩⟩
end Go.Proofs.YtjinajfejbpicaaDoor
