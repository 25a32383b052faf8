/-
  The walk of the law 'a step keeps what it is handed and makes progress'; conditions: the tables as listed, the arguments' rows.
-/
import Derived.Test.YtjinajfejbpicaaDoorStc
namespace Go.Proofs.YtjinajfejbpicaaDoor
open Go.RowKit

theorem tok_drew {w : World} {a : Option Addr} {len cap : Nat} {ts : List Tok} (h : TokIn w a len cap ts) (m : Nat) : TokIn (w.drewN m) a len cap ts := h.up ⟨rfl, rfl, rfl, Nat.le_refl _, fun _ _ => rfl⟩
theorem same_q {w : World} {a b : Option Addr} {n ca cb : Nat} {ts : List Tok} (k : Nat) (h1 : TokIn w a n ca ts) (h2 : TokIn w b n cb ts) : Calls Tryd.prog 13 #[.slice a n ca, .slice b n cb] (w.drewN k) fun e w'' => e = .returned (.bool true) ∧ ∃ m, w'' = w.drewN m :=
  (same_any a b n ca cb ts (w.drewN k) (tok_drew h1 k) (tok_drew h2 k)).mono fun _ _ ⟨he, m, hm⟩ => ⟨he, k + m, by rw [hm, World.drewN_drewN]⟩

theorem same_q2 {w : World} {a b : Option Addr} {n ca cb : Nat} {ts : List Tok} (p k : Nat) (h1 : TokIn w a n ca ts) (h2 : TokIn w b n cb ts) : Calls Tryd.prog 13 #[.slice a n ca, .slice b n cb] (w.drewN (p + k)) fun e w'' => e = .returned (.bool true) ∧ ∃ m, w'' = w.drewN (p + m) :=
  (same_any a b n ca cb ts (w.drewN (p + k)) (tok_drew h1 _) (tok_drew h2 _)).mono fun _ _ ⟨he, m, hm⟩ => ⟨he, k + m, by rw [hm, World.drewN_drewN, Nat.add_assoc]⟩

def cutAt (c : Int) (n : Nat) : Nat := c.toNat % (n + 1)
theorem cutAt_le (c : Int) (n : Nat) : cutAt c n ≤ n := by unfold cutAt; have := Nat.mod_lt c.toNat (show 0 < n + 1 by omega); omega
theorem cutAt_eq {c : Int} (h : 0 ≤ c) (n : Nat) : c % ((n : Int) + 1) = (cutAt c n : Int) := by
  unfold cutAt
  rw [Int.natCast_emod, Int.toNat_of_nonneg h]
  simp

theorem made8 (k : Nat) (w : World) (hk : k ≤ 1048576) : ∃ cur : Array Value, (Instr.makeSlice 28 (.int .i64 (k : Int)) (.int .i64 ((k : Int) + 8))).run Tryd.prog w = .ok (.slice (some ⟨w.heap.size, 0, none⟩) k (k + 8)) (w.alloc (.cells cur 48)) ∧ cur.size = (k + 8) * 7 := by
  obtain ⟨i0, hi, hz0, hz1, hz2⟩ := info_parts info48
  have h := run_make (P := Tryd.prog) w 28 48 i0 _ Tryd.underlying28 hi hz0 .i64 .i64 (k : Int) ((k : Int) + 8) (by omega) (by omega) (by rw [hz2]; omega) (by omega)
  have e : ((k : Int) + 8).toNat = k + 8 := by omega
  rw [e, Int.toNat_natCast, hz1] at h
  exact ⟨_, h, size_madeCells _ _⟩

set_option maxHeartbeats 4000000 in
set_option maxRecDepth 100000 in
theorem fnMangleFamilyStepKeepsPrefixAndProgresses_walk (a0 : Option Addr) (len0 cap0 : Nat) (z0 : List Int) (a1 : Option Addr) (len1 cap1 : Nat) (z1 : List ByteArray) (a2 : Int) (a3 : Bool) (w : World) (w0 : InRow w a0 len0 cap0 (z0.map (Value.int .u8))) (_ww0 : ∀ n ∈ z0, (Lit.int .u8 n).wf = true) (w1 : InRow w a1 len1 cap1 (z1.map Value.string)) (ww1 : ∀ s ∈ z1, s.size ≤ maxLen) (h2 : 0 ≤ a2) (h2' : a2 ≤ 65535) (hT : Tabs w) :
    Calls Tryd.prog 5 #[.slice a0 len0 cap0, .slice a1 len1 cap1, .int .u16 a2, .bool a3] w fun e w' => e = .returned (.bool true) ∧ Below w.heap.size w w' := by
  have hc0 := w0.cap
  have hl0 := w0.len
  have hl1 := w1.len
  rw [List.length_map] at hl0 hl1
  obtain ⟨i0, hi, hz0, hz1, hz2⟩ := info_parts info48
  have hsz7 : (Tryd.prog.info? 48).map (·.size) = some 7 := by rw [hi]; exact congrArg some hz1
  have HI := Lib.hid (And.intro hi (And.intro hz0 (And.intro hz1 (And.intro hz2 hsz7))))
  have H0 := Lib.hid (And.intro w0 (And.intro w1 (And.intro ww1 (And.intro hT (And.intro hl0 hl1)))))
  have HM := Lib.hid (show len0 ≤ maxLen from Nat.le_trans hc0.1 hc0.2)
  clear w0 w1 ww1 hT hc0 hl0 hl1 hi hz0 hz1 hz2 hsz7
  have q := Lib.run_eql_slice_nil (P := Tryd.prog)
  go_enter Tryd.func5, Tryd.ntmps5
  go_wp2_with fail
  refine (bytes17_any a0 a1 len0 cap0 len1 cap1 a2 a3 z1 w H0.out.2.1 H0.out.2.2.1 HM.out).mono ?_
  rintro e w' ⟨b, rfl, rfl, _⟩
  cases b
  · go_wp2_with fail
    go_ret
    exact ⟨rfl, Below.refl _ _⟩
  go_wp2_with fail
  refine (sizeOK_any a0 a1 len0 cap0 len1 cap1 z1 w H0.out.2.1 H0.out.2.2.1 HM.out).mono ?_
  rintro e w' ⟨b, rfl, rfl, hsz⟩
  cases b
  · clear hsz
    go_wp2_with fail
    go_ret
    exact ⟨rfl, Below.refl _ _⟩
  have hS := hsz rfl
  clear hsz
  have HS := Lib.hid hS
  have hL0 : len0 ≤ 1048576 := by omega
  have hL1 : len1 ≤ 1048576 := by omega
  clear hS
  go_wp2_with fail
  refine (cloneK a0 len0 cap0 z0 w H0.out.1 hL0).mono ?_
  rintro e wa ⟨A, c, rfl, hra, hba⟩
  have HA := Lib.hid (And.intro hra hba)
  clear hra hba
  go_wp2_with fail
  refine (cloneS a1 len1 cap1 z1 wa (H0.out.2.1.up HA.out.2) hL1).mono ?_
  rintro e wb ⟨A', c', rfl, hrb, hbb⟩
  have HB := Lib.hid (And.intro hrb (And.intro (HA.out.1.up hbb) (HA.out.2.trans (hbb.mono HA.out.2.size))))
  clear hrb hbb
  go_wp2_with fail
  refine (build_any A A' len0 c len1 c' z0 z1 wb HB.out.2.1 HB.out.1 hL0).mono ?_
  rintro e wc ⟨g, rfl, htk, hg, hbc⟩
  have hbc0 := HB.out.2.2.trans (hbc.mono HB.out.2.2.size)
  have hwt := mkToks_wt z0 z1
  have hkl := H0.out.2.2.2.2.1
  rw [hkl] at htk hwt ⊢
  have hln := mkToks_len z0 z1
  rw [hkl] at hln
  have hwt2 : wt (mkToks z0 z1) ≤ 2097152 := by have := HS.out; omega
  obtain ⟨T, hTT⟩ : ∃ T, mkToks z0 z1 = T := ⟨_, rfl⟩
  rw [hTT] at htk hwt2 hln
  have hgl : g < wc.heap.size ∨ len0 = 0 := by
    rcases htk.2.2.2 with h | ⟨g', o', e, h⟩
    · exact .inr (by rw [← hln, h]; rfl)
    · cases e
      by_cases h0 : len0 = 0
      · exact .inr h0
      · obtain ⟨t, ht⟩ : ∃ t, T[0]? = some t := ⟨_, List.getElem?_eq_getElem (by omega)⟩
        obtain ⟨g2, o2, e2, _, h3⟩ := htk.head ht
        cases e2
        exact .inl h3
  have HC := Lib.hid (And.intro htk (And.intro hbc0 (And.intro hwt2 hln)))
  clear htk hg hbc hbc0 hwt hkl hwt2 hln hTT hgl
  have hrem := cutAt_eq h2 len0
  have hcle := cutAt_le a2 len0
  obtain ⟨k, hk⟩ : ∃ k, cutAt a2 len0 = k := ⟨_, rfl⟩
  rw [hk] at hrem hcle
  have hk0 : (0 : Int) ≤ (k : Int) := by omega
  have hk1 : (k : Int) ≤ (len0 : Int) := by omega
  clear hk
  obtain ⟨cur, hmk, hcs⟩ := made8 k wc (by omega)
  have HCS := Lib.hid hcs
  clear hcs
  have htk := HC.out.1.take k len0 hcle (by omega) HM.out
  have hTk : (T.take k).length = k := htk.1
  have HP := Lib.hid (And.intro htk hTk)
  clear htk hTk
  go_wp2_with (refine Lib.wpList_copy_run _ rfl (.tmp 46) (.tmp 49) 28 28 rfl _ _ rfl rfl (run_copy_wide2 (wc.alloc (.cells cur 48)) 28 28 _ 48 wc.heap.size k (k + 8) ⟨g, 0, none⟩ k len0 cur 48 (flat (T.take k)) 7 k Tryd.underlying28 HI.out.2.2.2.2 (heap_alloc_new wc _) (Nat.min_self _) (by rw [flat_len, HP.out.2]) (tok_cells (HP.out.1.up ((Below.refl _ _).alloc (Nat.le_refl _) _))) (by rw [flat_len, HP.out.2, HCS.out]; omega) flat_one_all) ?_)
  · -- the input is empty
    have hpm := prefix_made (w := wc) cur rfl HP.out.2 (by omega) HCS.out
    obtain ⟨W, hW⟩ : ∃ W, (wc.alloc (Obj.cells cur 48)).setRow wc.heap.size (flat (List.take k T) ++ List.drop (flat (List.take k T)).length cur.toList).toArray = W := ⟨_, rfl⟩
    rw [hW] at hpm ⊢
    have HW := Lib.hid hpm
    clear hW hpm
    have HT := Lib.hid (And.intro (H0.out.2.2.2.1.up HC.out.2.1) (show TokIn wc (some ⟨g, 0, none⟩) 0 0 [] from ⟨rfl, Nat.le_refl _, by unfold maxLen; omega, .inl rfl⟩))
    refine (zst_any a3 (some ⟨g, 0, none⟩) 0 0 [] wc W (.slice none 0 0) 0 [] HT.out.1 HW.out.2 HT.out.2 ⟨rfl, .inl ⟨rfl, rfl⟩⟩ (by simp) (fun x hx => by cases hx)).mono ?_
    rintro e w2 ⟨hb2, ⟨s1, hrun⟩, rfl⟩
    have hown2 := hrun.own HW.out.1 (fun k hk => by simp [Value.ownBlock])
    have H2 := Lib.hid (And.intro hb2 hown2)
    clear hb2 hrun hown2
    go_wp2_with fail
    refine (zst_any a3 (some ⟨g, 0, none⟩) 0 0 [] wc w2 (.slice (some ⟨wc.heap.size, 0, none⟩) k (k + 8)) k (flat (T.take k)) HT.out.1 H2.out.1 HT.out.2 H2.out.2 (by simp; omega) (fun x hx => by cases hx)).mono ?_
    rintro e w3 ⟨hb3, ⟨s2, hrun⟩, rfl⟩
    have H3 := Lib.hid (And.intro hb3 (And.intro (tok_of_kx (cap := k + 8) (n := k) hrun.kx HP.out.2 (by omega) (by unfold maxLen; omega)) (HP.out.1.up hb3)))
    clear hb3 hrun
    go_wp2_with fail
    refine (same_any _ _ k (k + 8) k (T.take k) w3 H3.out.2.1 (by have h3 := H3.out.2.2; rwa [show len0 = k by omega] at h3)).mono ?_
    rintro e w4 ⟨rfl, m, rfl⟩
    go_wp2_with fail
    go_ret
    exact ⟨rfl, HC.out.2.1.trans ((H3.out.1.mono HC.out.2.1.size).trans ⟨rfl, rfl, rfl, Nat.le_refl _, fun _ _ => rfl⟩)⟩
  · have hlt : k < len0 := by omega
    have hpm := prefix_made (w := wc) cur rfl HP.out.2 (by omega) HCS.out
    obtain ⟨W, hW⟩ : ∃ W, (wc.alloc (Obj.cells cur 48)).setRow wc.heap.size (flat (List.take k T) ++ List.drop (flat (List.take k T)).length cur.toList).toArray = W := ⟨_, rfl⟩
    rw [hW] at hpm ⊢
    have HW := Lib.hid hpm
    clear hW hpm
    have hin := HC.out.1.drop k hcle (some ⟨g, k * 7, none⟩) (fun _ => by rw [Nat.zero_add])
    obtain ⟨L, hL⟩ : ∃ L, len0 - k = L := ⟨_, rfl⟩
    rw [hL] at hin ⊢
    have hL1 : 0 < L := by omega
    have hL2 : L + k = len0 := by omega
    have hLm : L ≤ 1048576 := by omega
    have hil : (T.drop k).length = L := hin.1
    have hszs : ∀ x ∈ T.drop k, x.text.length ≤ 4194304 := fun x hx => by
      have := wt_mem (List.mem_of_mem_drop hx)
      have := HC.out.2.2.1
      omega
    obtain ⟨r, hr⟩ : ∃ r, step V G a3 (T.drop k) = r := ⟨_, rfl⟩
    have z1 := zst_any a3 (some ⟨g, k * 7, none⟩) L L (T.drop k) wc W (.slice none 0 0) 0 [] (H0.out.2.2.2.1.up HC.out.2.1) HW.out.2 hin ⟨rfl, .inl ⟨rfl, rfl⟩⟩ (by rw [hil]; omega) hszs
    have z2 := fun (w2 : World) (hb2 : Below wc.heap.size wc w2) (ho : w2.ownsRow wc.heap.size 48 7 (.slice (some ⟨wc.heap.size, 0, none⟩) k (k + 8)) k (flat (T.take k))) => zst_any a3 (some ⟨g, k * 7, none⟩) L L (T.drop k) wc w2 (.slice (some ⟨wc.heap.size, 0, none⟩) k (k + 8)) k (flat (T.take k)) (H0.out.2.2.2.1.up HC.out.2.1) hb2 hin ho (by rw [hil]; omega) hszs
    simp only [hr] at z1 z2
    have HZ1 := Lib.hid z1
    have HZ2 := Lib.hid z2
    have HT := Lib.hid (And.intro hin (And.intro hil hr))
    have HL2 := Lib.hid hL2
    clear z1 z2 hin hil hr hszs hL hL2 hlt
    refine HZ1.out.mono ?_
    cases r with
    | none =>
      rintro e w2 ⟨hb2, ⟨s1, hrun⟩, rfl⟩
      have hown2 := hrun.own HW.out.1 (fun k hk => by simp [Value.ownBlock])
      have H2 := Lib.hid (And.intro hb2 hown2)
      clear hb2 hrun hown2
      go_wp2_with fail
      refine (HZ2.out w2 H2.out.1 H2.out.2).mono ?_
      rintro e w3 ⟨hb3, ⟨s2, hrun⟩, rfl⟩
      have H3 := Lib.hid (And.intro hb3 (And.intro (tok_of_kx (cap := k + 8) (n := k) hrun.kx HP.out.2 (by omega) (by unfold maxLen; omega)) (HP.out.1.up hb3)))
      clear hb3 hrun
      go_wp2_with fail
      refine (same_any _ _ k (k + 8) len0 (T.take k) w3 H3.out.2.1 H3.out.2.2).mono ?_
      rintro e w4 ⟨rfl, m, rfl⟩
      go_wp2_with fail
      go_ret
      exact ⟨rfl, HC.out.2.1.trans ((H3.out.1.mono HC.out.2.1.size).trans ⟨rfl, rfl, rfl, Nat.le_refl _, fun _ _ => rfl⟩)⟩
    | some p =>
      obtain ⟨o, rest⟩ := p
      rintro e w2 ⟨hb2, _, v1, A1, c1, rfl, htk1, ho1, hrun⟩
      have hne := List.length_pos_iff.2 (step_ne HT.out.2.2)
      have hsw := step_wt HT.out.2.2
      have hR : rest.length < L := by rw [← HT.out.2.1]; exact hsw.2.1
      obtain ⟨d, hd⟩ := hsw.2.2
      have hown2 := hrun.own HW.out.1 (fun k hk => by simp [Value.ownBlock])
      rw [Nat.zero_add, List.nil_append] at ho1
      have hol : o.length ≤ 8388608 := by
        have h1 := hsw.1
        have h2 : wt (T.drop k) ≤ wt T := by
          conv => rhs; rw [← List.take_append_drop k T, wt_append]
          omega
        have := HC.out.2.2.1
        omega
      have hvb : ∀ j, v1.ownBlock = some j → (Value.slice (some ⟨wc.heap.size, 0, none⟩) k (k + 8)).ownBlock ≠ some j := fun j hj e => by
        have h1 := hrun.at_ j hj
        have h2 := (HW.out.1.lt j e).2
        simp [Value.ownBlock] at h1
        omega
      have H2 := Lib.hid (And.intro hb2 (And.intro hown2 (And.intro ho1 (And.intro hvb (And.intro htk1 hd)))))
      obtain ⟨n1, hn1⟩ : ∃ n1, o.length = n1 := ⟨_, rfl⟩
      obtain ⟨R, hR1⟩ : ∃ R, rest.length = R := ⟨_, rfl⟩
      obtain ⟨B1, b1, rfl, _⟩ := own_tok ho1 rfl
      have HN := Lib.hid (And.intro hn1 hR1)
      rw [hn1] at hne hol ⊢
      rw [hR1] at hR ⊢
      clear hb2 hrun hown2 hsw hd ho1 hvb htk1 hn1 hR1
      go_wp2_with fail
      refine (HZ2.out w2 H2.out.1 H2.out.2.1).mono ?_
      rintro e w3 ⟨hb3, _, v2, A2, c2, rfl, htk2, ho2, hrun2⟩
      have ho3 := hrun2.own H2.out.2.2.1 H2.out.2.2.2.1
      obtain ⟨_, _, e1, ht1⟩ := own_tok ho3 rfl
      rw [← flat_append] at ho2
      obtain ⟨B2, b2, rfl, ht2⟩ := own_tok ho2 (by rw [List.length_append, HP.out.2])
      cases e1
      have htp := tok_of_kx (cap := k + 8) (n := k) hrun2.kx HP.out.2 (by omega) (by unfold maxLen; omega)
      rw [HN.out.1] at ht1 ht2 ⊢
      rw [HN.out.2] at htk2 ⊢
      obtain ⟨g2, o2, rfl⟩ := ht2.at' (by omega)
      obtain ⟨g1, o1, rfl⟩ := ht1.at' hne
      have hb2c := ht2.2.1
      have hb2m := ht2.2.2.1
      unfold maxLen at hb2m
      have H3 := Lib.hid (And.intro hb3 (And.intro htp (And.intro (HP.out.1.up hb3) (And.intro ht1 (And.intro ht2 htk2)))))
      clear hb3 hrun2 ho2 ho3 ht1 ht2 htk2 htp
      have hbk : ¬ k = b2 := by omega
      go_wp2_with fail
      refine (same_any _ _ k (k + 8) len0 (T.take k) w3 H3.out.2.1 H3.out.2.2.1).mono ?_
      rintro e w4 ⟨rfl, hw4⟩
      have HW4 := Lib.hid hw4
      clear hw4
      go_wp2_with fail
      have q1 : TokIn w3 (some ⟨g2, o2, none⟩) k b2 (T.take k) := by
        have h1 := H3.out.2.2.2.2.1.take k b2 (by omega) (by omega) (by unfold maxLen; omega)
        rwa [List.take_left' HP.out.2] at h1
      have q2 : TokIn w3 (some ⟨g2, o2 + k * 7, none⟩) n1 (b2 - k) o := by
        have h1 := H3.out.2.2.2.2.1.drop k (by omega) (some ⟨g2, o2 + k * 7, none⟩) (fun _ => rfl)
        rwa [List.drop_left' HP.out.2, Nat.add_sub_cancel_left] at h1
      have Q : Hid ((TokIn w4 (some ⟨g2, o2, none⟩) k b2 (T.take k) ∧ TokIn w4 (some ⟨g2, o2 + k * 7, none⟩) n1 (b2 - k) o) ∧ TokIn w4 (some ⟨g, 0, none⟩) k len0 (T.take k) ∧ TokIn w4 (some ⟨g1, o1, none⟩) n1 b1 o ∧ TokIn w4 A2 R c2 rest ∧ Below wc.heap.size wc w4) := by
        obtain ⟨m, rfl⟩ := HW4.out
        exact ⟨⟨tok_drew q1 m, tok_drew q2 m⟩, tok_drew H3.out.2.2.1 m, tok_drew H3.out.2.2.2.1 m, (H3.out.2.2.2.2.2.up H3.out.1) |> fun h => tok_drew h m, H3.out.1.trans ⟨rfl, rfl, rfl, Nat.le_refl _, fun _ _ => rfl⟩⟩
      clear q1 q2
      have hz1 : ((n1 : Int) == 0) = false := by simp; omega
      obtain ⟨N, hN⟩ : ∃ N, k + n1 = N := ⟨_, rfl⟩
      rw [hN]
      have hk2 : (k : Int) ≤ (N : Int) := by omega
      have hk3 : (N : Int) ≤ (b2 : Int) := by omega
      have hNk : N - k = n1 := by omega
      have HHN := Lib.hid (And.intro hN (And.intro hb2c hb2m))
      have hk5 : (k : Int) ≤ (b2 : Int) := by omega
      clear hN hb2c hb2m
      go_quiet ((go_at_call 13; first | exact same_q _ Q.out.1.1 Q.out.2.1 | exact same_q _ Q.out.1.2 Q.out.2.2.1))
      clear hNk hz1 hk2 hk3 hk5 hbk
      have hwt5 : TokIn w4 (some ⟨g, k * 7, none⟩) L L (T.drop k) := (HT.out.1).up Q.out.2.2.2.2
      have htk3 : TokIn w4 A1 R c1 rest := by
        have h1 := H2.out.2.2.2.2.1.up Q.out.2.2.2.2
        rwa [HN.out.2] at h1
      have HQ5 := Lib.hid (And.intro hwt5 htk3)
      clear htk3
      have HW5 := Lib.hid (HC.out.2.1.trans (Q.out.2.2.2.2.mono HC.out.2.1.size))
      clear hwt5
      by_cases hR0 : R = 0
      · have hc9 : TokIn w4 (some ⟨g, k * 7, none⟩) 0 0 rest := ⟨by rw [HN.out.2, hR0], Nat.le_refl _, by unfold maxLen; omega, .inl (List.eq_nil_of_length_eq_zero (by rw [HN.out.2, hR0]))⟩
        subst hR0
        have HC9 := Lib.hid hc9
        clear hc9
        go_wp2_with fail
        refine (same_q nq HQ5.out.2 HC9.out).mono ?_
        rintro e w5 ⟨rfl, m5, rfl⟩
        go_wp2_with fail
        refine (same_q _ Q.out.2.2.2.1 HQ5.out.2).mono ?_
        rintro e w6 ⟨rfl, m6, rfl⟩
        go_wp2_with fail
        go_ret
        exact ⟨rfl, HW5.out.trans ⟨rfl, rfl, rfl, Nat.le_refl _, fun _ _ => rfl⟩⟩
      · obtain ⟨I, hI⟩ : ∃ I, L - R = I := ⟨_, rfl⟩
        have hI1 : (L : Int) - (R : Int) = (I : Int) := by omega
        have hI2 : L - I = R := by omega
        have hI3 : (I : Int) < (L : Int) := by omega
        have hI4 : (0 : Int) ≤ (I : Int) := by omega
        have hI5 : ¬ I = L := by omega
        have hc9 : TokIn w4 (some ⟨g, k * 7 + I * 7, none⟩) R R rest := by
          have h1 := HQ5.out.1.drop I (by omega) (some ⟨g, k * 7 + I * 7, none⟩) (fun _ => rfl)
          have h2 : (T.drop k).drop I = rest := by
            have hd := H2.out.2.2.2.2.2
            have hl := HT.out.2.1
            rw [hd] at hl ⊢
            rw [List.length_append, HN.out.2] at hl
            exact List.drop_left' (by omega)
          rwa [hI2, h2] at h1
        have HD9 := Lib.hid hc9
        clear hI hc9
        go_wp2_with fail
        refine (same_q nq HQ5.out.2 HD9.out).mono ?_
        rintro e w5 ⟨rfl, m5, rfl⟩
        go_wp2_with fail
        refine (same_q _ Q.out.2.2.2.1 HQ5.out.2).mono ?_
        rintro e w6 ⟨rfl, m6, rfl⟩
        go_wp2_with fail
        go_ret
        exact ⟨rfl, HW5.out.trans ⟨rfl, rfl, rfl, Nat.le_refl _, fun _ _ => rfl⟩⟩
end Go.Proofs.YtjinajfejbpicaaDoor
