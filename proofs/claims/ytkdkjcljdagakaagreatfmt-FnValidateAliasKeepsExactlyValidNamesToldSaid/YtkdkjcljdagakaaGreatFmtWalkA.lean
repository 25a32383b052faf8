/-
  The walk of the law fnValidateAliasIdempotent (for whatever function answers fmt): it returns true; conditions: those that it names.
-/
import Derived.Test.YtkdkjcljdagakaaGreatFmtZzv
import Derived.Test.YtkdkjcljdagakaaGreatFmtCan
import Derived.Test.YtkdkjcljdagakaaGreatFmtBmp
namespace Go.Proofs.YtkdkjcljdagakaaGreatFmt
open Go.RowKit Go.Extern.Stop Go.Stop Go.Extern Go.Maps

theorem size_le_of {b n : Nat} {D : DataW Unit} {w : World} (h : MapS b n D w) : Maps.size D ≤ n := h.size_le
theorem bmap_all {ps : List KV} : ∀ k, has (bmap ps) k = true ↔ ∃ p ∈ ps, k = kL p := bmap_has _ ps rfl
theorem zero9 (w : World) : (zeroValue 9).run Tryz.prog w = .ok (.string ⟨#[]⟩) w := by kernel_rfl
theorem look_str {b n : Nat} {D : DataW Unit} {w : World} (h : MapS b n D w) (s : ByteArray) (hs : s.size ≤ maxLen) :
    ∃ c : ByteArray, (Instr.lookup 26 (.map (some b)) (.string s) true).run Tryz.prog w = .ok (.tuple #[.string c, .bool (Maps.has D (.string s.data.toList))]) w ∧ D.atKey (.string s.data.toList) (.lit (.string [])) = .lit (.string c.data.toList) := by
  obtain ⟨v, q, hr, hv⟩ := h.look_ok law9 Tryz.underlying26 (zero9 w) (plainElem_string (s := ⟨#[]⟩) Tryz.underlying9 (by decide)) (WideMaps.keyOf_string_mk (s := s) Tryz.underlying9 hs)
  obtain ⟨c, rfl, hc, _⟩ := plainElem_string_inv Tryz.underlying9 hv
  exact ⟨c, hr, by simpa using congrArg Prod.fst hc⟩
theorem str_inj {a b : ByteArray} {D : DataW Unit} (h1 : D = .lit (.string a.data.toList)) (h2 : D = .lit (.string b.data.toList)) : a = b := by
  have h := h1.symm.trans h2
  injection h with h
  injection h with h
  rw [← Lib.mk_data a, ← Lib.mk_data b, h]

set_option maxHeartbeats 8000000 in
set_option maxRecDepth 100000 in
theorem fnValidateAliasIdempotent_walk (F : Interp) (a1 : Option Addr) (l1 c1 : Nat) (ss : List ByteArray) (a2 : Option Addr) (l2 c2 : Nat) (ts : List ByteArray) (w : World) (hF : F.answers w.tape) (h1 : InRow w a1 l1 c1 (ss.map Value.string)) (h2 : InRow w a2 l2 c2 (ts.map Value.string)) (hs : ∀ s ∈ ss, s.size ≤ maxLen) (ht : ∀ s ∈ ts, s.size ≤ maxLen) :
    Calls Tryz.prog 3 #[.slice a1 l1 c1, .slice a2 l2 c2] w fun e w' => e = .returned (.bool true) ∧ Below w.heap.size w w' := by
  have hlen1 := h1.len
  have hlen2 := h2.len
  rw [List.length_map] at hlen1 hlen2
  have hcap1 := h1.cap
  have hcap2 := h2.cap
  have H1 := Lib.hid h1
  have H2 := Lib.hid h2
  have HS := Lib.hid (And.intro hs ht)
  have HL := Lib.hid (And.intro hlen1 hlen2)
  have HF := Lib.hid hF
  clear h1 h2 hs ht hlen1 hlen2 hF
  unfold maxLen at hcap1 hcap2
  obtain ⟨hc1, hc2⟩ := hcap1
  obtain ⟨hc3, hc4⟩ := hcap2
  go_enter Tryz.func3, Tryz.ntmps3
  go_wp2_with fail
  refine (bytes7_any a1 l1 c1 ss a2 l2 c2 ts w H1.out H2.out HS.out.1 HS.out.2).mono ?_
  rintro e w' ⟨b, rfl, rfl, hb⟩
  cases b
  · clear hb
    go_wp2_with fail
    go_ret
    exact ⟨rfl, Below.refl _ _⟩
  have hb := hb rfl
  by_cases hl1 : l1 ≤ 4096
  rotate_left
  · clear hb
    go_wp2_with fail
    go_ret
    exact ⟨rfl, Below.refl _ _⟩
  by_cases hl2 : l2 ≤ 4096
  rotate_left
  · clear hb
    go_wp2_with fail
    go_ret
    exact ⟨rfl, Below.refl _ _⟩
  obtain ⟨t1, ht1⟩ : ∃ t, t = tot ss := ⟨_, rfl⟩
  obtain ⟨t2, ht2⟩ : ∃ t, t = tot ts := ⟨_, rfl⟩
  have HT := Lib.hid (And.intro ht1 ht2)
  have hsb1 := fun wx (h : InRow wx a1 l1 c1 (ss.map Value.string)) => strBytes_any a1 l1 c1 ss wx h hl1 (by omega)
  have hsb2 := fun wx (h : InRow wx a2 l2 c2 (ts.map Value.string)) => strBytes_any a2 l2 c2 ts wx h hl2 (by omega)
  rw [← ht1] at hsb1 hb
  rw [← ht2] at hsb2 hb
  have HSB := Lib.hid (And.intro hsb1 hsb2)
  clear hsb1 hsb2 ht1 ht2
  by_cases hsz : (8 * l1 + t1) + (8 * l2 + t2) ≤ 1048576
  rotate_left
  · go_wp2_with fail
    refine (HSB.out.1 _ H1.out).mono ?_
    rintro e w' ⟨rfl, rfl⟩
    go_wp2_with fail
    refine (HSB.out.2 _ H2.out).mono ?_
    rintro e w' ⟨rfl, rfl⟩
    go_wp2_with fail
    go_ret
    exact ⟨rfl, Below.refl _ _⟩
  by_cases hll : l1 = l2
  rotate_left
  · go_wp2_with fail
    refine (HSB.out.1 _ H1.out).mono ?_
    rintro e w' ⟨rfl, rfl⟩
    go_wp2_with fail
    refine (HSB.out.2 _ H2.out).mono ?_
    rintro e w' ⟨rfl, rfl⟩
    go_wp2_with fail
    go_ret
    exact ⟨rfl, Below.refl _ _⟩
  subst hll
  go_wp2_with fail
  refine (HSB.out.1 _ H1.out).mono ?_
  rintro e w' ⟨rfl, rfl⟩
  go_wp2_with fail
  refine (HSB.out.2 _ H2.out).mono ?_
  rintro e w' ⟨rfl, rfl⟩
  go_wp2_with fail
  refine (cloneS a1 l1 c1 ss _ H1.out (by omega)).mono ?_
  rintro e w1 ⟨A1, cap1, rfl, hi1, hb1⟩
  have hz1 := hb1.size
  have K1 := Lib.hid (And.intro hi1 hb1)
  clear hi1 hb1
  go_wp2_with fail
  refine (cloneS a2 l1 c2 ts _ (H2.out.up K1.out.2) (by omega)).mono ?_
  rintro e w2 ⟨A2, cap2, rfl, hi2, hb2⟩
  have hz2 := hb2.size
  have K2 := Lib.hid (And.intro (K1.out.1.up hb2) (And.intro hi2 (K1.out.2.trans (hb2.mono hz1))))
  clear hi2 hb2
  obtain ⟨ps, hps⟩ : ∃ ps : List KV, ps = ss.zip ts := ⟨_, rfl⟩
  have hpl : ps.length = l1 := by rw [hps, List.length_zip, HL.out.1, HL.out.2, Nat.min_self]
  have hget : ∀ (k : Nat) (s t : ByteArray), ss[k]? = some s → ts[k]? = some t → ps[k]? = some (s, t) := fun k s t hs ht => by rw [hps, List.getElem?_zip_eq_some]; exact ⟨hs, ht⟩
  have hmem : ∀ p ∈ ps, p.1.size ≤ 1048576 ∧ p.1 ∈ ss ∧ p.2 ∈ ts := fun p hp => by
    have hz : (p.1, p.2) ∈ ss.zip ts := by rw [← hps]; exact hp
    have h1 := (List.of_mem_zip hz).1
    have h2 := tot_mem h1
    have h3 := HT.out.1
    exact ⟨by omega, h1, (List.of_mem_zip hz).2⟩
  have HP := Lib.hid (And.intro hps (And.intro hpl (And.intro hget hmem)))
  clear hps hpl hget hmem
  have hmk1 := run_makeMap_hint (P := Tryz.prog) 26 _ _ Tryz.underlying26 (l1 : Int) w2
  go_upto_block 0 with fail
  clear hmk1
  go_cut [] from 46 (fun wx => MapS w2.heap.size l1 (bmap ps) wx ∧ Below w2.heap.size w2 wx)
  case first =>
    go_wp2_with fail
    go_loopw [6] (fun s6 wr => ∃ k : Nat, s6 = .int .i64 k ∧ k ≤ l1 ∧ MapS w2.heap.size k (bmap (ps.take k)) wr ∧ Below w2.heap.size w2 wr) (fun s6 _ => l1 - (intOf s6).toNat)
    case atStart => exact ⟨0, rfl, Nat.zero_le _, World.ownsMap_made _ _ _ _, (Below.refl _ _).alloc (Nat.le_refl _) _⟩
    case round =>
      obtain ⟨k, rfl, hk, hM, hbw⟩ := hrel
      by_cases hlt : k < l1
      · obtain ⟨x, s, rfl, hsk, hc⟩ := (K2.out.1.up hbw).get hlt
        obtain ⟨y, t, rfl, htk, hd⟩ := (K2.out.2.1.up hbw).get hlt
        have hsm := HS.out.1 s (List.mem_of_getElem? hsk)
        have htm := HS.out.2 t (List.mem_of_getElem? htk)
        obtain ⟨w5, hrun5, hown5, hgrow5⟩ := World.ownsMap.update (H := Unit) (show MapS w2.heap.size k (bmap (ps.take k)) wr.drew from hM) law9 Tryz.underlying26 (by unfold maxLen; omega) (WideMaps.keyOf_string_mk (s := s) Tryz.underlying9 hsm) (plainElem_string (s := t) Tryz.underlying9 htm)
        have hd5 : Below w2.heap.size w2 w5 := (hbw.drew).grown hgrow5 hbw.size (fun j hj => by cases hj; exact Nat.le_refl _)
        have hown6 : MapS w2.heap.size (k + 1) (bmap (ps.take (k + 1))) w5 := by rw [bmap_step (HP.out.2.2.1 k s t hsk htk)]; exact hown5
        have H5 := Lib.hid (And.intro hown6 hd5)
        clear hM hbw hsk htk hsm htm hown5 hgrow5 hd5 hown6
        go_wp2_with fail
        go_region
        all_goals
          go_wp2_with fail
          exact ⟨⟨k + 1, by go_num, by omega, H5.out⟩, by simp [intOf]; omega⟩
      · obtain rfl : k = l1 := by omega
        rw [List.take_of_length_le (by rw [HP.out.2.1]; exact Nat.le_refl _)] at hM
        have H := Lib.hid (And.intro hM hbw)
        clear hM hbw
        go_wp2_with fail
        go_meet
        exact H.out
  case rest =>
    have hz3 := hcut.2.size
    have hb03 := K2.out.2.2.trans (hcut.2.mono (by omega))
    have hF3 : F.answers wc.tape := by rw [hb03.tape]; exact HF.out
    have hsz3 : Maps.size (bmap ps) ≤ 4096 := Nat.le_trans (size_le_of hcut.1) hl1
    have hk3 : ∀ k : ByteArray, has (bmap ps) (.string k.data.toList) = true → k.size ≤ 1048576 := fun k hk => by
      obtain ⟨p, hp, e⟩ := (bmap_all _).1 hk
      have e2 : k = p.1 := (kL_eq (p := (k, k)) (q := p)).1 e
      rw [e2]
      exact (HP.out.2.2.2 p hp).1
    have K3 := Lib.hid (And.intro hcut.1 (And.intro hcut.2 (And.intro hb03 (And.intro hF3 (And.intro hsz3 hk3)))))
    clear hcut hb03 hF3 hsz3 hk3
    go_wp2_with fail
    refine (zzv_any F w2.heap.size l1 (bmap ps) wc K3.out.2.2.2.1 K3.out.1 K3.out.2.2.2.2.1 K3.out.2.2.2.2.2).mono ?_
    rintro e w4 ⟨r1, D1, he1, rfl, hr1, hm1, kp1, hg1, hb4⟩
    have hz4 := hb4.size
    have hb04 := K3.out.2.2.1.trans (hb4.mono (by omega))
    have hF4 : F.answers w4.tape := by rw [hb04.tape]; exact HF.out
    have hsz4 : Maps.size D1 ≤ 4096 := Nat.le_trans (size_le_of hm1) K3.out.2.2.2.2.1
    have hk4 : ∀ k : ByteArray, has D1 (.string k.data.toList) = true → k.size ≤ 1048576 := fun k hk => by
      rw [kp1.has, Bool.and_eq_true] at hk
      exact K3.out.2.2.2.2.2 k hk.1
    have K4 := Lib.hid (And.intro hm1 (And.intro kp1 (And.intro hb04 (And.intro hF4 (And.intro hsz4 (And.intro hk4 hb4))))))
    clear hm1 kp1 hg1 hb04 hF4 hsz4 hk4 hb4
    go_wp2_with fail
    refine (zzv_any F r1 _ D1 w4 K4.out.2.2.2.1 K4.out.1 K4.out.2.2.2.2.1 K4.out.2.2.2.2.2.1).mono ?_
    rintro e w5 ⟨r2, D2, he2, rfl, hr2, hm2, kp2, hg2, hb5⟩
    obtain rfl : he2 = false := hg2.2 K4.out.2.1.again
    obtain rfl : D2 = D1 := K4.out.2.1.same kp2 (K4.out.1.canon law9) (hm2.canon law9)
    have hz5 := hb5.size
    have hm15 : MapS r1 (Maps.size (bmap ps)) D2 w5 := K4.out.1.kept (row := none) ⟨hb5.os, hb5.tape, hb5.output, hb5.size, fun k hk _ => hb5.block k hk⟩ (by simp)
    have hln1 := fun ty => hm15.len Tryz.underlying26 ty
    have hln2 := fun ty => hm2.len Tryz.underlying26 ty
    have hi5 := K2.out.1.up (K3.out.2.1.trans ((K4.out.2.2.2.2.2.2.mono hz3).trans (hb5.mono (by omega))))
    have K5 := Lib.hid (And.intro hm15 (And.intro hm2 (And.intro hi5 (K4.out.2.2.1.trans (hb5.mono (by omega))))))
    clear hm15 hm2 hi5 kp2 hg2 hb5
    obtain ⟨sz, hszz⟩ : ∃ n, Maps.size D2 = n := ⟨_, rfl⟩
    rw [hszz] at hln1 hln2
    clear hszz
    go_wp2_with fail
    clear hln1 hln2
    go_loop [11] (fun s11 => ∃ k : Nat, s11 = .int .i64 k ∧ k ≤ l1) (fun s11 => l1 - (intOf s11).toNat)
    case atStart => exact ⟨0, rfl, Nat.zero_le _⟩
    case round =>
      obtain ⟨k, rfl, hk⟩ := hrel
      by_cases hlt : k < l1
      · obtain ⟨x, s, rfl, hsk, hc⟩ := K5.out.2.2.1.get hlt
        have hsm := HS.out.1 s (List.mem_of_getElem? hsk)
        obtain ⟨u1, hu1, hv1⟩ := look_str K5.out.1 s hsm
        obtain ⟨u2, hu2, hv2⟩ := look_str K5.out.2.1 s hsm
        obtain rfl := str_inj hv1 hv2
        clear hv1 hv2 hsk hsm
        cases hh : has D2 (.string s.data.toList) with
        | true =>
          rw [hh] at hu1 hu2
          clear hh
          go_wp2_with fail
          exact ⟨⟨k + 1, by go_num, by omega⟩, by simp [intOf]; omega⟩
        | false =>
          rw [hh] at hu1 hu2
          clear hh
          go_wp2_with fail
          exact ⟨⟨k + 1, by go_num, by omega⟩, by simp [intOf]; omega⟩
      · go_wp2_with fail
        go_ret
        exact ⟨rfl, K5.out.2.2.2⟩
end Go.Proofs.YtkdkjcljdagakaaGreatFmt
