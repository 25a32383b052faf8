/-
  The walk of the law on paths between chunks under a public path, for whatever function answers fmt as fmt's texts say; conditions: those that each names.
-/
import Derived.Test.YtpocoepcpfjgjaaFmtCtx
namespace Go.Proofs.YtpocoepcpfjgjaaFmt
open Go.RowKit Go.Extern.Stop Go.Stop Go.Extern

set_option maxHeartbeats 400000 in
theorem zz9_yes (a b c : ByteArray) (w : World) (h : a.size + b.size + c.size ≤ 1048576) : Calls Tryf.prog 9 #[.string a, .string b, .string c] w fun e w' => e = .returned (.bool true) ∧ w = w' := by
  have h1 : a.size ≤ 1048576 := by omega
  have h2 : b.size ≤ 1048576 := by omega
  have h3 : c.size ≤ 1048576 := by omega
  have h4 : a.size + b.size ≤ 1048576 := by omega
  go_enter Tryf.func9, Tryf.ntmps9
  go_wp2
  go_ret
  exact ⟨rfl, rfl⟩
set_option maxHeartbeats 1000000 in
theorem zz9_any (a b c : ByteArray) (w : World) (h1 : a.size ≤ 9223372036854775807) (h2 : b.size ≤ 9223372036854775807) (h3 : c.size ≤ 9223372036854775807) : Calls Tryf.prog 9 #[.string a, .string b, .string c] w fun e w' => (∃ r : Bool, e = .returned (.bool r)) ∧ w = w' := by
  by_cases k1 : a.size ≤ 1048576
  · by_cases k2 : b.size ≤ 1048576
    · by_cases k4 : a.size + b.size ≤ 1048576
      · by_cases k3 : c.size ≤ 1048576
        · by_cases k5 : a.size + b.size + c.size ≤ 1048576
          · exact (zz9_yes a b c w k5).mono fun e w' h => ⟨⟨_, h.1⟩, h.2⟩
          · go_enter Tryf.func9, Tryf.ntmps9
            go_wp2
            go_ret
            exact ⟨⟨_, rfl⟩, rfl⟩
        · go_enter Tryf.func9, Tryf.ntmps9
          go_wp2
          go_ret
          exact ⟨⟨_, rfl⟩, rfl⟩
      · go_enter Tryf.func9, Tryf.ntmps9
        go_wp2
        go_ret
        exact ⟨⟨_, rfl⟩, rfl⟩
    · go_enter Tryf.func9, Tryf.ntmps9
      go_wp2
      go_ret
      exact ⟨⟨_, rfl⟩, rfl⟩
  · go_enter Tryf.func9, Tryf.ntmps9
    go_wp2
    go_ret
    exact ⟨⟨_, rfl⟩, rfl⟩
set_option maxHeartbeats 1000000 in
theorem law_none (pub dir to : ByteArray) (w : World) (hne : pub.toList.isEmpty = true) (h1 : pub.size ≤ 65536) (h2 : to.size ≤ 65536) (h3 : dir.size ≤ 65536) :
    Calls Tryf.prog 4 #[.string pub, .string dir, .string to] w fun e w' => e = .returned (.bool true) ∧ Below w.heap.size w w' := by
  go_enter Tryf.func4, Tryf.ntmps4
  go_wp2_with (go_at_call 9; refine (zz9_yes _ _ _ _ (by omega)).mono ?_; rintro e w' ⟨rfl, rfl⟩)
  go_ret
  exact ⟨rfl, Below.refl _ _⟩
set_option maxHeartbeats 1000000 in
theorem law_big (pub dir to : ByteArray) (w : World) (h1 : pub.size ≤ 9223372036854775807) (h2 : dir.size ≤ 9223372036854775807) (h3 : to.size ≤ 9223372036854775807) (hb : ¬ (pub.size ≤ 65536 ∧ dir.size ≤ 65536 ∧ to.size ≤ 65536)) :
    Calls Tryf.prog 4 #[.string pub, .string dir, .string to] w fun e w' => e = .returned (.bool true) ∧ Below w.heap.size w w' := by
  by_cases k1 : pub.size ≤ 65536
  · by_cases k2 : dir.size ≤ 65536
    · have k3 : 65536 < to.size := by omega
      clear hb
      go_enter Tryf.func4, Tryf.ntmps4
      go_wp2_with fail
      refine (zz9_any pub dir to _ h1 h2 h3).mono ?_
      rintro e w' ⟨⟨r, rfl⟩, rfl⟩
      cases r
      · go_wp2_with fail
        go_ret
        exact ⟨rfl, Below.refl _ _⟩
      · go_wp2_with fail
        go_ret
        exact ⟨rfl, Below.refl _ _⟩
    · clear hb
      go_enter Tryf.func4, Tryf.ntmps4
      go_wp2_with fail
      refine (zz9_any pub dir to _ h1 h2 h3).mono ?_
      rintro e w' ⟨⟨r, rfl⟩, rfl⟩
      cases r
      · go_wp2_with fail
        go_ret
        exact ⟨rfl, Below.refl _ _⟩
      · go_wp2_with fail
        go_ret
        exact ⟨rfl, Below.refl _ _⟩
  · clear hb
    go_enter Tryf.func4, Tryf.ntmps4
    go_wp2_with fail
    refine (zz9_any pub dir to _ h1 h2 h3).mono ?_
    rintro e w' ⟨⟨r, rfl⟩, rfl⟩
    cases r
    · go_wp2_with fail
      go_ret
      exact ⟨rfl, Below.refl _ _⟩
    · go_wp2_with fail
      go_ret
      exact ⟨rfl, Below.refl _ _⟩
theorem suffix_last (P : List UInt8) (c : UInt8) : Lib.hasSuffix (P ++ [c]) [47] = (c == 47) := by
  unfold Lib.hasSuffix
  rw [Bool.eq_iff_iff, List.isSuffixOf_iff_suffix, beq_iff_eq]
  constructor
  · rintro ⟨t, ht⟩
    have := congrArg List.getLast? ht
    simp at this
    exact this.symm
  · rintro rfl
    exact ⟨P, rfl⟩
theorem last_of (s : ByteArray) (n : Nat) (h : s.size = n + 1) : Lib.hasSuffix s.data.toList [47] = (((s[n]'(by omega)).toNat : Int) == 47) := by
  have hne : s.data.toList ≠ [] := by intro e; rw [Lib.size_eq, e] at h; cases h
  have hd := List.dropLast_concat_getLast hne
  have hl : s.data.toList.dropLast.length = n := by rw [List.length_dropLast, ← Lib.size_eq, h]; rfl
  have hg := Lib.data_getElem? s n (by omega)
  rw [← hd, List.getElem?_append_right (by omega), hl, Nat.sub_self] at hg
  have hc : s.data.toList.getLast hne = s[n]'(by omega) := Option.some.inj hg
  rw [← hd, suffix_last, hc]
  cases hb : (s[n]'(by omega) == 47)
  · symm
    rw [beq_eq_false_iff_ne] at hb ⊢
    intro e
    exact hb (UInt8.toNat_inj.1 (by show _ = 47; omega))
  · symm
    rw [beq_iff_eq] at hb ⊢
    rw [hb]
    rfl

theorem hsm1 : (⟨#[47]⟩ : ByteArray).size ≤ 140737488355328 := by decide
theorem hsm2 : (⟨#[46, 47]⟩ : ByteArray).size ≤ 140737488355328 := by decide
theorem cut_at (a b : List UInt8) (s : ByteArray) (h : s.size = a.length) : (S (a ++ b)).extract s.size (S (a ++ b)).size = S b := by
  rw [extract_S, S_data, S_size, h, List.drop_left, List.take_of_length_le (by rw [List.length_append]; omega)]

set_option maxHeartbeats 4000000 in
set_option maxRecDepth 100000 in
theorem law_plain (F : Interp) (pub dir to : ByteArray) (w : World) (hF : F.answers w.tape) (hS : Says F) (hne : pub.toList.isEmpty = false) (h1 : pub.size ≤ 65536) (h2 : to.size ≤ 65536) (h3 : dir.size ≤ 65536) (hs : Lib.hasSuffix pub.data.toList [47] = false) :
    Calls Tryf.prog 4 #[.string pub, .string dir, .string to] w fun e w' => e = .returned (.bool true) ∧ Below w.heap.size w w' := by
  obtain ⟨n, hn⟩ : ∃ n, pub.size = n + 1 := by
    refine ⟨pub.size - 1, ?_⟩
    rcases Nat.eq_zero_or_pos pub.size with h0 | h0
    · exfalso
      have : pub.data.toList = [] := List.eq_nil_of_length_eq_zero (by rw [← Lib.size_eq]; exact h0)
      rw [Lib.toList_data, this] at hne
      cases hne
    · omega
  have hl := last_of pub n hn
  rw [hs] at hl
  have hlt : n < pub.size := by omega
  have hpn : (((pub[n]'hlt).toNat : Int) == 47) = false := hl.symm
  have hadd := run_add_S (P := Tryf.prog) pub ⟨#[47]⟩ (by show _ + 1 ≤ _; omega)
  change ∀ wx, (Op.stringOp .add pub ⟨#[47]⟩).run Tryf.prog wx = .ok (.string (S (pub.data.toList ++ [47]))) wx at hadd
  have hj := fun wx (hx : F.answers wx.tape) => join_plain F pub to wx hx hS hne h1 h2 hs
  have H := Lib.hid (And.intro hj hF)
  have e1 : (pub.size : Int) - 1 = (n : Int) := by omega
  have e2 : (n : Int) < (pub.size : Int) := by omega
  have hps := Lib.size_eq pub
  have HN := Lib.hid (And.intro hn hps)
  clear hl hj hS hF hs hn hps
  go_enter Tryf.func4, Tryf.ntmps4
  go_wp2_with (go_at_call 9; refine (zz9_yes _ _ _ _ (by omega)).mono ?_; rintro e w' ⟨rfl, rfl⟩)
  refine (ctx_any pub _).mono ?_
  rintro e w1 ⟨⟨c, o, rfl, hc⟩, hb1⟩
  go_wp2_with fail
  refine (between_any pub dir to _ c o w1 hc hne (H.out.1 w1 (by rw [hb1.tape]; exact H.out.2))).mono ?_
  rintro e w2 ⟨r, rfl, hst, hrl, hb2⟩
  have hbb := hb1.trans (hb2.mono hb1.size)
  obtain ⟨hd, hhd⟩ : ∃ hd : ByteArray, (S (pub.data.toList ++ [47])) = hd := ⟨_, rfl⟩
  have hdl : hd.data.toList = pub.data.toList ++ [47] := by rw [← hhd]; exact S_data _
  have hds : hd.size = (pub.data.toList ++ [47]).length := by rw [Lib.size_eq, hdl]
  obtain ⟨R0, hR⟩ : ∃ R0, S (pub.data.toList ++ [47] ++ r) = R0 := ⟨_, rfl⟩
  have x1 : Lib.hasPrefix R0.data.toList hd.data.toList = true := by rw [← hR, S_data, hdl]; exact hp_self _ _
  have x3 : R0.extract hd.size R0.size = S r := by rw [← hR]; exact cut_at _ _ _ hds
  have hRs : R0.size = hd.size + r.length := by rw [← hR, S_size, List.length_append, ← hds]
  have hdb : hd.size ≤ 65537 := by rw [hds, List.length_append, ← HN.out.2]; simp; omega
  rw [← Lib.size_eq] at hrl
  have x2 : (hd.size : Int) ≤ (R0.size : Int) := by omega
  have x4 : (0 : Int) ≤ (hd.size : Int) := by omega
  have HX := Lib.hid (And.intro hst (And.intro x1 (And.intro hbb (And.intro hRs hdb))))
  have HBD := Lib.hid (show (R0.size ≤ 140737488355328 ∧ hd.size ≤ 140737488355328) ∧ (to.size ≤ 140737488355328 ∧ r.length ≤ 140737488355328) from ⟨⟨by omega, by omega⟩, by omega, by omega⟩)
  have hR8 : R0.size ≤ 1048576 := by omega
  have hd8 : hd.size ≤ 1048576 := by omega
  clear hst x1 hbb hc hb1 hb2 hdl hds hRs hdb
  rw [hhd] at hadd
  clear hhd
  rw [hR]
  clear hR
  cases hp : Lib.hasPrefix to.data.toList [46, 47]
  · have hr : S r = to := by
      have := HX.out.1
      unfold Strip at this
      rw [if_neg (by rw [hp]; decide)] at this
      rw [this, S_L]
    rw [hr] at x3
    have HP := Lib.hid hp
    clear hp hr
    go_wp2_with fail
    refine (hp11_val R0 hd true _ HBD.out.1.1 HBD.out.1.2 HX.out.2.1).mono ?_
    rintro e w' ⟨rfl, rfl⟩
    go_wp2_with fail
    refine (hp11_val to ⟨#[46, 47]⟩ false _ HBD.out.2.1 hsm2 HP.out).mono ?_
    rintro e w' ⟨rfl, rfl⟩
    go_wp2_with fail
    go_ret
    exact ⟨by first | rfl | simp, HX.out.2.2.1⟩
  · obtain ⟨p, hto, htk, hn1, hn2⟩ : ∃ p, to.data.toList = 46 :: 47 :: (p ++ r) ∧ Toks p ∧ Lib.hasPrefix r [47] = false ∧ Lib.hasPrefix r [46, 47] = false := by
      have := HX.out.1
      unfold Strip at this
      rw [if_pos hp] at this
      exact this
    have hts : to.size = p.length + r.length + 2 := by rw [Lib.size_eq, hto, List.length_cons, List.length_cons, List.length_append]
    obtain ⟨k, hk⟩ : ∃ k, p.length + 2 = k := ⟨_, rfl⟩
    obtain ⟨rB, hrB⟩ : ∃ rB, S r = rB := ⟨_, rfl⟩
    have hrs : rB.size = r.length := by rw [← hrB, S_size]
    have y1 : to.extract k to.size = rB := by
      rw [← hrB, extract_S, hto, ← hk, hts, show p.length + 2 = (p.length + 1) + 1 from rfl, List.drop_succ_cons, List.drop_succ_cons, List.drop_left, List.take_of_length_le (by omega)]
    have y2 : to.extract 2 k = S p := by
      rw [extract_S, hto, ← hk, List.drop_succ_cons, List.drop_succ_cons, List.drop_zero, show p.length + 2 - 2 = p.length by omega, List.take_left]
    have y3 : (to.size : Int) - (rB.size : Int) = (k : Int) := by omega
    have y4 : ¬ (to.size : Int) - 2 < (rB.size : Int) := by omega
    have y5 : (2 : Int) ≤ (k : Int) := by omega
    have y6 : (k : Int) ≤ (to.size : Int) := by omega
    have y7 : (0 : Int) ≤ (k : Int) := by omega
    rw [hrB] at x3
    obtain ⟨pB, hpB⟩ : ∃ pB, S p = pB := ⟨_, rfl⟩
    rw [hpB] at y2
    have htk2 : Toks pB.data.toList := by rw [← hpB, S_data]; exact htk
    have hps : pB.size ≤ 1048576 := by rw [← hpB, S_size]; omega
    have hrb8 : rB.size ≤ 1048576 := by omega
    rw [← S_data r, hrB] at hn1 hn2
    have HP := Lib.hid (And.intro hp (And.intro htk2 (And.intro hn1 (And.intro hn2 (show rB.size ≤ 140737488355328 by omega)))))
    clear hp hto htk hn1 hn2 hts hk hrB hrs hpB htk2
    go_wp2_with fail
    refine (hp11_val R0 hd true _ HBD.out.1.1 HBD.out.1.2 HX.out.2.1).mono ?_
    rintro e w' ⟨rfl, rfl⟩
    go_wp2_with fail
    refine (hp11_val to ⟨#[46, 47]⟩ true _ HBD.out.2.1 hsm2 HP.out.1).mono ?_
    rintro e w' ⟨rfl, rfl⟩
    go_wp2_with fail
    refine (toks_yes pB _ hps HP.out.2.1).mono ?_
    rintro e w' ⟨rfl, rfl⟩
    go_wp2_with fail
    refine (hp11_val rB ⟨#[47]⟩ false _ HP.out.2.2.2.2 hsm1 HP.out.2.2.1).mono ?_
    rintro e w' ⟨rfl, rfl⟩
    go_wp2_with fail
    refine (hp11_val rB ⟨#[46, 47]⟩ false _ HP.out.2.2.2.2 hsm2 HP.out.2.2.2.1).mono ?_
    rintro e w' ⟨rfl, rfl⟩
    go_wp2_with fail
    go_ret
    exact ⟨by first | rfl | simp, HX.out.2.2.1⟩

set_option maxHeartbeats 4000000 in
set_option maxRecDepth 100000 in
theorem law_slash (F : Interp) (pub dir to : ByteArray) (w : World) (hF : F.answers w.tape) (hS : Says F) (hne : pub.toList.isEmpty = false) (h1 : pub.size ≤ 65536) (h2 : to.size ≤ 65536) (h3 : dir.size ≤ 65536) (hs : Lib.hasSuffix pub.data.toList [47] = true) :
    Calls Tryf.prog 4 #[.string pub, .string dir, .string to] w fun e w' => e = .returned (.bool true) ∧ Below w.heap.size w w' := by
  obtain ⟨n, hn⟩ : ∃ n, pub.size = n + 1 := by
    refine ⟨pub.size - 1, ?_⟩
    rcases Nat.eq_zero_or_pos pub.size with h0 | h0
    · exfalso
      have : pub.data.toList = [] := List.eq_nil_of_length_eq_zero (by rw [← Lib.size_eq]; exact h0)
      rw [Lib.toList_data, this] at hne
      cases hne
    · omega
  have hl := last_of pub n hn
  rw [hs] at hl
  have hlt : n < pub.size := by omega
  have hpn : (((pub[n]'hlt).toNat : Int) == 47) = true := hl.symm
  have hadd := run_add_S (P := Tryf.prog) pub ⟨#[47]⟩ (by show _ + 1 ≤ _; omega)
  change ∀ wx, (Op.stringOp .add pub ⟨#[47]⟩).run Tryf.prog wx = .ok (.string (S (pub.data.toList ++ [47]))) wx at hadd
  have hj := fun wx (hx : F.answers wx.tape) => join_slash F pub to wx hx hS hne h1 h2 hs
  have H := Lib.hid (And.intro hj hF)
  have e1 : (pub.size : Int) - 1 = (n : Int) := by omega
  have e2 : (n : Int) < (pub.size : Int) := by omega
  have hps := Lib.size_eq pub
  have HN := Lib.hid (And.intro hn hps)
  clear hl hj hS hF hs hn hps
  go_enter Tryf.func4, Tryf.ntmps4
  go_wp2_with (go_at_call 9; refine (zz9_yes _ _ _ _ (by omega)).mono ?_; rintro e w' ⟨rfl, rfl⟩)
  refine (ctx_any pub _).mono ?_
  rintro e w1 ⟨⟨c, o, rfl, hc⟩, hb1⟩
  go_wp2_with fail
  refine (between_any pub dir to _ c o w1 hc hne (H.out.1 w1 (by rw [hb1.tape]; exact H.out.2))).mono ?_
  rintro e w2 ⟨r, rfl, hst, hrl, hb2⟩
  have hbb := hb1.trans (hb2.mono hb1.size)
  obtain ⟨hd, hhd⟩ : ∃ hd : ByteArray, pub = hd := ⟨_, rfl⟩
  have hdl : hd.data.toList = pub.data.toList ++ [] := by rw [← hhd]; exact (List.append_nil _).symm
  have hds : hd.size = (pub.data.toList ++ []).length := by rw [Lib.size_eq, hdl]
  obtain ⟨R0, hR⟩ : ∃ R0, S (pub.data.toList ++ [] ++ r) = R0 := ⟨_, rfl⟩
  have x1 : Lib.hasPrefix R0.data.toList hd.data.toList = true := by rw [← hR, S_data, hdl]; exact hp_self _ _
  have x3 : R0.extract hd.size R0.size = S r := by rw [← hR]; exact cut_at _ _ _ hds
  have hRs : R0.size = hd.size + r.length := by rw [← hR, S_size, List.length_append, ← hds]
  have hdb : hd.size ≤ 65537 := by rw [hds, List.length_append, ← HN.out.2]; simp; omega
  rw [← Lib.size_eq] at hrl
  have x2 : (hd.size : Int) ≤ (R0.size : Int) := by omega
  have x4 : (0 : Int) ≤ (hd.size : Int) := by omega
  have HX := Lib.hid (And.intro hst (And.intro x1 (And.intro hbb (And.intro hRs hdb))))
  have HBD := Lib.hid (show (R0.size ≤ 140737488355328 ∧ hd.size ≤ 140737488355328) ∧ (to.size ≤ 140737488355328 ∧ r.length ≤ 140737488355328) from ⟨⟨by omega, by omega⟩, by omega, by omega⟩)
  have hR8 : R0.size ≤ 1048576 := by omega
  have hd8 : hd.size ≤ 1048576 := by omega
  clear hst x1 hbb hc hb1 hb2 hdl hds hRs hdb
  subst hhd
  rw [hR]
  clear hR
  cases hp : Lib.hasPrefix to.data.toList [46, 47]
  · have hr : S r = to := by
      have := HX.out.1
      unfold Strip at this
      rw [if_neg (by rw [hp]; decide)] at this
      rw [this, S_L]
    rw [hr] at x3
    have HP := Lib.hid hp
    clear hp hr
    go_wp2_with fail
    refine (hp11_val R0 pub true _ HBD.out.1.1 HBD.out.1.2 HX.out.2.1).mono ?_
    rintro e w' ⟨rfl, rfl⟩
    go_wp2_with fail
    refine (hp11_val to ⟨#[46, 47]⟩ false _ HBD.out.2.1 hsm2 HP.out).mono ?_
    rintro e w' ⟨rfl, rfl⟩
    go_wp2_with fail
    go_ret
    exact ⟨by first | rfl | simp, HX.out.2.2.1⟩
  · obtain ⟨p, hto, htk, hn1, hn2⟩ : ∃ p, to.data.toList = 46 :: 47 :: (p ++ r) ∧ Toks p ∧ Lib.hasPrefix r [47] = false ∧ Lib.hasPrefix r [46, 47] = false := by
      have := HX.out.1
      unfold Strip at this
      rw [if_pos hp] at this
      exact this
    have hts : to.size = p.length + r.length + 2 := by rw [Lib.size_eq, hto, List.length_cons, List.length_cons, List.length_append]
    obtain ⟨k, hk⟩ : ∃ k, p.length + 2 = k := ⟨_, rfl⟩
    obtain ⟨rB, hrB⟩ : ∃ rB, S r = rB := ⟨_, rfl⟩
    have hrs : rB.size = r.length := by rw [← hrB, S_size]
    have y1 : to.extract k to.size = rB := by
      rw [← hrB, extract_S, hto, ← hk, hts, show p.length + 2 = (p.length + 1) + 1 from rfl, List.drop_succ_cons, List.drop_succ_cons, List.drop_left, List.take_of_length_le (by omega)]
    have y2 : to.extract 2 k = S p := by
      rw [extract_S, hto, ← hk, List.drop_succ_cons, List.drop_succ_cons, List.drop_zero, show p.length + 2 - 2 = p.length by omega, List.take_left]
    have y3 : (to.size : Int) - (rB.size : Int) = (k : Int) := by omega
    have y4 : ¬ (to.size : Int) - 2 < (rB.size : Int) := by omega
    have y5 : (2 : Int) ≤ (k : Int) := by omega
    have y6 : (k : Int) ≤ (to.size : Int) := by omega
    have y7 : (0 : Int) ≤ (k : Int) := by omega
    rw [hrB] at x3
    obtain ⟨pB, hpB⟩ : ∃ pB, S p = pB := ⟨_, rfl⟩
    rw [hpB] at y2
    have htk2 : Toks pB.data.toList := by rw [← hpB, S_data]; exact htk
    have hps : pB.size ≤ 1048576 := by rw [← hpB, S_size]; omega
    have hrb8 : rB.size ≤ 1048576 := by omega
    rw [← S_data r, hrB] at hn1 hn2
    have HP := Lib.hid (And.intro hp (And.intro htk2 (And.intro hn1 (And.intro hn2 (show rB.size ≤ 140737488355328 by omega)))))
    clear hp hto htk hn1 hn2 hts hk hrB hrs hpB htk2
    go_wp2_with fail
    refine (hp11_val R0 pub true _ HBD.out.1.1 HBD.out.1.2 HX.out.2.1).mono ?_
    rintro e w' ⟨rfl, rfl⟩
    go_wp2_with fail
    refine (hp11_val to ⟨#[46, 47]⟩ true _ HBD.out.2.1 hsm2 HP.out.1).mono ?_
    rintro e w' ⟨rfl, rfl⟩
    go_wp2_with fail
    refine (toks_yes pB _ hps HP.out.2.1).mono ?_
    rintro e w' ⟨rfl, rfl⟩
    go_wp2_with fail
    refine (hp11_val rB ⟨#[47]⟩ false _ HP.out.2.2.2.2 hsm1 HP.out.2.2.1).mono ?_
    rintro e w' ⟨rfl, rfl⟩
    go_wp2_with fail
    refine (hp11_val rB ⟨#[46, 47]⟩ false _ HP.out.2.2.2.2 hsm2 HP.out.2.2.2.1).mono ?_
    rintro e w' ⟨rfl, rfl⟩
    go_wp2_with fail
    go_ret
    exact ⟨by first | rfl | simp, HX.out.2.2.1⟩

theorem fnPathBetweenChunksPublicExact_walk (F : Interp) (pub dir to : ByteArray) (w : World) (hF : F.answers w.tape) (hS : Says F) (wa : pub.size ≤ maxLen) (wb : dir.size ≤ maxLen) (wc : to.size ≤ maxLen) :
    Calls Tryf.prog 4 #[.string pub, .string dir, .string to] w fun e w' => e = .returned (.bool true) ∧ Below w.heap.size w w' := by
  by_cases hb : pub.size ≤ 65536 ∧ dir.size ≤ 65536 ∧ to.size ≤ 65536
  · obtain ⟨h1, h3, h2⟩ := hb
    cases hne : pub.toList.isEmpty
    · cases hs : Lib.hasSuffix pub.data.toList [47]
      · exact law_plain F pub dir to w hF hS hne h1 h2 h3 hs
      · exact law_slash F pub dir to w hF hS hne h1 h2 h3 hs
    · exact law_none pub dir to w hne h1 h2 h3
  · exact law_big pub dir to w (by unfold maxLen at *; omega) (by unfold maxLen at *; omega) (by unfold maxLen at *; omega) hb

end Go.Proofs.YtpocoepcpfjgjaaFmt
