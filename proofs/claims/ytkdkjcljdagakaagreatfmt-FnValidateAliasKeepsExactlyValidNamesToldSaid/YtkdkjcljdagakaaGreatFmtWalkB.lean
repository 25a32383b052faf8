/-
  The walk of the law fnValidateAliasKeepsExactlyValidNames (for whatever function answers fmt): it returns true; conditions: those that it names.
-/
import Derived.Test.YtkdkjcljdagakaaGreatFmtWalkA
import Derived.Test.YtkdkjcljdagakaaGreatFmtLst
namespace Go.Proofs.YtkdkjcljdagakaaGreatFmt
open Go.RowKit Go.Extern.Stop Go.Stop Go.Extern Go.Maps

def goodP (p : KV) : Bool := good (kL p) (vD p)
/-- The valid last entries before k, and whether one before k is not valid. -/
structure Sel (ps : List KV) (k : Nat) (L : List KV) (bad : Bool) : Prop where
  nd : (L.map kL).Nodup
  mem : ∀ p, p ∈ L ↔ ∃ i, i < k ∧ ps[i]? = some p ∧ LastAt ps i ∧ goodP p = true
  bad : bad = true ↔ ∃ i p, i < k ∧ ps[i]? = some p ∧ LastAt ps i ∧ goodP p = false
theorem sel_start (ps : List KV) : Sel ps 0 [] false := ⟨by simp, fun p => by simp, by simp⟩
theorem lt_succ {i k : Nat} : i < k + 1 ↔ i < k ∨ i = k := by omega
theorem sel_skip {ps L : List KV} {k : Nat} {bad : Bool} (h : Sel ps k L bad) (hn : ¬ LastAt ps k) : Sel ps (k + 1) L bad := by
  refine ⟨h.nd, fun p => (h.mem p).trans ⟨?_, ?_⟩, h.bad.trans ⟨?_, ?_⟩⟩
  · rintro ⟨i, hi, r⟩
    exact ⟨i, by omega, r⟩
  · rintro ⟨i, hi, h1, h2, h3⟩
    rcases lt_succ.1 hi with hi | rfl
    · exact ⟨i, hi, h1, h2, h3⟩
    · exact absurd h2 hn
  · rintro ⟨i, p, hi, r⟩
    exact ⟨i, p, by omega, r⟩
  · rintro ⟨i, p, hi, h1, h2, h3⟩
    rcases lt_succ.1 hi with hi | rfl
    · exact ⟨i, p, hi, h1, h2, h3⟩
    · exact absurd h2 hn
theorem sel_good {ps L : List KV} {k : Nat} {bad : Bool} {p : KV} (h : Sel ps k L bad) (hp : ps[k]? = some p) (hl : LastAt ps k) (hg : goodP p = true) : Sel ps (k + 1) (L ++ [p]) bad := by
  refine ⟨?_, fun q => ?_, h.bad.trans ⟨?_, ?_⟩⟩
  · rw [List.map_append, List.nodup_append]
    refine ⟨h.nd, by simp, fun a ha b hb e => ?_⟩
    obtain ⟨q, hq, rfl⟩ := List.mem_map.1 ha
    obtain ⟨p', hp', rfl⟩ := List.mem_map.1 hb
    rw [List.mem_singleton] at hp'
    subst hp'
    obtain ⟨i, hi, h1, h2, h3⟩ := (h.mem q).1 hq
    exact h2 k q p' hi h1 hp (kL_eq.1 e).symm
  · rw [List.mem_append, List.mem_singleton, h.mem]
    constructor
    · rintro (⟨i, hi, r⟩ | rfl)
      · exact ⟨i, by omega, r⟩
      · exact ⟨k, by omega, hp, hl, hg⟩
    · rintro ⟨i, hi, h1, h2, h3⟩
      rcases lt_succ.1 hi with hi | rfl
      · exact .inl ⟨i, hi, h1, h2, h3⟩
      · rw [hp] at h1
        exact .inr (Option.some.inj h1).symm
  · rintro ⟨i, q, hi, r⟩
    exact ⟨i, q, by omega, r⟩
  · rintro ⟨i, q, hi, h1, h2, h3⟩
    rcases lt_succ.1 hi with hi | rfl
    · exact ⟨i, q, hi, h1, h2, h3⟩
    · rw [hp] at h1
      cases h1
      rw [hg] at h3
      cases h3
theorem sel_bad {ps L : List KV} {k : Nat} {bad : Bool} {p : KV} (h : Sel ps k L bad) (hp : ps[k]? = some p) (hl : LastAt ps k) (hg : goodP p = false) : Sel ps (k + 1) L true := by
  refine ⟨h.nd, fun q => (h.mem q).trans ⟨?_, ?_⟩, ⟨fun _ => ⟨k, p, by omega, hp, hl, hg⟩, fun _ => rfl⟩⟩
  · rintro ⟨i, hi, r⟩
    exact ⟨i, by omega, r⟩
  · rintro ⟨i, hi, h1, h2, h3⟩
    rcases lt_succ.1 hi with hi | rfl
    · exact ⟨i, hi, h1, h2, h3⟩
    · rw [hp] at h1
      cases h1
      rw [hg] at h3
      cases h3
/-- Each key has a last place. -/
theorem last_exists : ∀ (n : Nat) (ps : List KV), ps.length = n → ∀ p ∈ ps, ∃ i q, ps[i]? = some q ∧ q.1 = p.1 ∧ LastAt ps i
  | 0, ps, h, p, hp => by rw [List.eq_nil_of_length_eq_zero h] at hp; cases hp
  | n + 1, ps, h, p, hp => by
    obtain ⟨r, x, rfl⟩ : ∃ r x, ps = r ++ [x] := ⟨ps.dropLast, ps.getLast (by intro e; rw [e] at h; cases h), (List.dropLast_concat_getLast _).symm⟩
    by_cases e : x.1 = p.1
    · refine ⟨r.length, x, by simp, e, fun j p' q hj h1 h2 => ?_⟩
      have := (List.getElem?_eq_some_iff.1 h2).1
      simp at this
      omega
    · have hp' : p ∈ r := by
        rcases List.mem_append.1 hp with hp | hp
        · exact hp
        · rw [List.mem_singleton] at hp
          exact absurd (by rw [hp]) e
      obtain ⟨i, q, h1, h2, h3⟩ := last_exists n r (by simpa using h) p hp'
      have hi := (List.getElem?_eq_some_iff.1 h1).1
      refine ⟨i, q, by rw [List.getElem?_append_left hi]; exact h1, h2, fun j p' q' hj a1 a2 => ?_⟩
      rw [List.getElem?_append_left hi, h1] at a1
      cases a1
      by_cases hjl : j < r.length
      · rw [List.getElem?_append_left hjl] at a2
        exact h3 j q q' hj h1 a2
      · have hj2 := (List.getElem?_eq_some_iff.1 a2).1
        have : j = r.length := by simp at hj2; omega
        subst this
        have : x = q' := by simpa using a2
        rw [← this, h2]
        exact e
theorem at_last {ps : List KV} {i : Nat} {p : KV} (hp : ps[i]? = some p) (hl : LastAt ps i) (z : DataW Unit) : (bmap ps).atKey (kL p) z = vD p := bmap_at _ ps rfl i p hp hl z
theorem kept_last {ps : List KV} {D1 : DataW Unit} (kp : Kept D1 (bmap ps)) {i : Nat} {p : KV} (hp : ps[i]? = some p) (hl : LastAt ps i) : has D1 (kL p) = goodP p := by
  rw [kp.has, at_last hp hl, (bmap_all _).2 ⟨p, List.mem_of_getElem? hp, rfl⟩]
  rfl
theorem kept_at {ps : List KV} {D1 : DataW Unit} (kp : Kept D1 (bmap ps)) {i : Nat} {p : KV} (hp : ps[i]? = some p) (hl : LastAt ps i) (hg : goodP p = true) (z : DataW Unit) : D1.atKey (kL p) z = vD p := by
  rw [kp.at_ _ _ (by rw [kept_last kp hp hl]; exact hg), at_last hp hl]
theorem sel_end {ps L : List KV} {bad he : Bool} {D1 : DataW Unit} (h : Sel ps ps.length L bad) (kp : Kept D1 (bmap ps)) (c : Canon D1) (hhe : he = false ↔ ∀ k, has (bmap ps) k = true → good k ((bmap ps).atKey k .nil) = true) : Maps.size D1 = L.length ∧ he = bad := by
  constructor
  · rw [size_of_has c h.nd (fun k => ?_), List.length_map]
    constructor
    · intro hk
      have hk0 := hk
      rw [kp.has, Bool.and_eq_true] at hk0
      obtain ⟨p, hp, rfl⟩ := (bmap_all _).1 hk0.1
      obtain ⟨i, q, h1, h2, h3⟩ := last_exists _ ps rfl p hp
      have e : kL p = kL q := kL_eq.2 h2.symm
      rw [e] at hk ⊢
      rw [kept_last kp h1 h3] at hk
      exact List.mem_map.2 ⟨q, (h.mem q).2 ⟨i, (List.getElem?_eq_some_iff.1 h1).1, h1, h3, hk⟩, rfl⟩
    · intro hk
      obtain ⟨q, hq, rfl⟩ := List.mem_map.1 hk
      obtain ⟨i, hi, h1, h2, h3⟩ := (h.mem q).1 hq
      rw [kept_last kp h1 h2, h3]
  · cases bad with
    | true =>
      obtain ⟨i, p, hi, h1, h2, h3⟩ := h.bad.1 rfl
      cases he with
      | true => rfl
      | false =>
        have := hhe.1 rfl (kL p) ((bmap_all _).2 ⟨p, List.mem_of_getElem? h1, rfl⟩)
        rw [at_last h1 h2] at this
        rw [show good (kL p) (vD p) = goodP p from rfl, h3] at this
        cases this
    | false =>
      refine hhe.2 fun k hk => ?_
      obtain ⟨p, hp, rfl⟩ := (bmap_all _).1 hk
      obtain ⟨i, q, h1, h2, h3⟩ := last_exists _ ps rfl p hp
      have e : kL p = kL q := kL_eq.2 h2.symm
      rw [e, at_last h1 h3]
      cases hg : goodP q with
      | true => exact hg
      | false =>
        have := h.bad.2 ⟨i, q, (List.getElem?_eq_some_iff.1 h1).1, h1, h3, hg⟩
        cases this
theorem behind_last {ss ts : List ByteArray} {ps : List KV} {l k : Nat} {s t : ByteArray} (hps : ps = ss.zip ts) (hl : ss.length = l) (hl2 : ts.length = l) (hs : ss[k]? = some s) (ht : ts[k]? = some t) : Behind ss k s l ↔ LastAt ps k := by
  subst hps
  constructor
  · intro h j p q hj h1 h2
    obtain ⟨a1, a2⟩ := List.getElem?_zip_eq_some.1 h1
    obtain ⟨b1, b2⟩ := List.getElem?_zip_eq_some.1 h2
    rw [hs] at a1
    rw [← Option.some.inj a1]
    exact h j q.1 hj (by rw [← hl]; exact (List.getElem?_eq_some_iff.1 b1).1) b1
  · intro h j q hj hjl hq
    have hjt : j < ts.length := by omega
    exact h j (s, t) (q, ts[j]) hj (List.getElem?_zip_eq_some.2 ⟨hs, ht⟩) (List.getElem?_zip_eq_some.2 ⟨hq, List.getElem?_eq_getElem hjt⟩)

set_option maxHeartbeats 8000000 in
set_option maxRecDepth 100000 in
theorem fnValidateAliasKeepsExactlyValidNames_walk (F : Interp) (a1 : Option Addr) (l1 c1 : Nat) (ss : List ByteArray) (a2 : Option Addr) (l2 c2 : Nat) (ts : List ByteArray) (w : World) (hF : F.answers w.tape) (h1 : InRow w a1 l1 c1 (ss.map Value.string)) (h2 : InRow w a2 l2 c2 (ts.map Value.string)) (hs : ∀ s ∈ ss, s.size ≤ maxLen) (ht : ∀ s ∈ ts, s.size ≤ maxLen) :
    Calls Tryz.prog 6 #[.slice a1 l1 c1, .slice a2 l2 c2] w fun e w' => e = .returned (.bool true) ∧ Below w.heap.size w w' := by
  have hlen1 := h1.len
  have hlen2 := h2.len
  rw [List.length_map] at hlen1 hlen2
  have hcap1 := h1.cap
  have hcap2 := h2.cap
  have H1 := Lib.hid h1
  have H2 := Lib.hid h2
  have HS := Lib.hid (And.intro hs ht)
  have HL := Lib.hid (And.intro hlen1 hlen2)
  have HF := Lib.hid hF
  clear h1 h2 hs ht hlen1 hlen2 hF
  unfold maxLen at hcap1 hcap2
  obtain ⟨hc1, hc2⟩ := hcap1
  obtain ⟨hc3, hc4⟩ := hcap2
  go_enter Tryz.func6, Tryz.ntmps6
  go_wp2_with fail
  refine (bytes16_any a1 l1 c1 ss a2 l2 c2 ts w H1.out H2.out HS.out.1 HS.out.2).mono ?_
  rintro e w' ⟨b, rfl, rfl, hb⟩
  cases b
  · clear hb
    go_wp2_with fail
    go_ret
    exact ⟨rfl, Below.refl _ _⟩
  have hb := hb rfl
  by_cases hl1 : l1 ≤ 4096
  rotate_left
  · clear hb
    go_wp2_with fail
    go_ret
    exact ⟨rfl, Below.refl _ _⟩
  by_cases hl2 : l2 ≤ 4096
  rotate_left
  · clear hb
    go_wp2_with fail
    go_ret
    exact ⟨rfl, Below.refl _ _⟩
  obtain ⟨t1, ht1⟩ : ∃ t, t = tot ss := ⟨_, rfl⟩
  obtain ⟨t2, ht2⟩ : ∃ t, t = tot ts := ⟨_, rfl⟩
  have HT := Lib.hid (And.intro ht1 ht2)
  have hsb1 := fun wx (h : InRow wx a1 l1 c1 (ss.map Value.string)) => strBytes_any a1 l1 c1 ss wx h hl1 (by omega)
  have hsb2 := fun wx (h : InRow wx a2 l2 c2 (ts.map Value.string)) => strBytes_any a2 l2 c2 ts wx h hl2 (by omega)
  rw [← ht1] at hsb1 hb
  rw [← ht2] at hsb2 hb
  have HSB := Lib.hid (And.intro hsb1 hsb2)
  clear hsb1 hsb2 ht1 ht2
  by_cases hsz : (8 * l1 + t1) + (8 * l2 + t2) ≤ 1048576
  rotate_left
  · go_wp2_with fail
    refine (HSB.out.1 _ H1.out).mono ?_
    rintro e w' ⟨rfl, rfl⟩
    go_wp2_with fail
    refine (HSB.out.2 _ H2.out).mono ?_
    rintro e w' ⟨rfl, rfl⟩
    go_wp2_with fail
    go_ret
    exact ⟨rfl, Below.refl _ _⟩
  by_cases hll : l1 = l2
  rotate_left
  · go_wp2_with fail
    refine (HSB.out.1 _ H1.out).mono ?_
    rintro e w' ⟨rfl, rfl⟩
    go_wp2_with fail
    refine (HSB.out.2 _ H2.out).mono ?_
    rintro e w' ⟨rfl, rfl⟩
    go_wp2_with fail
    go_ret
    exact ⟨rfl, Below.refl _ _⟩
  subst hll
  go_wp2_with fail
  refine (HSB.out.1 _ H1.out).mono ?_
  rintro e w' ⟨rfl, rfl⟩
  go_wp2_with fail
  refine (HSB.out.2 _ H2.out).mono ?_
  rintro e w' ⟨rfl, rfl⟩
  go_wp2_with fail
  refine (cloneS a1 l1 c1 ss _ H1.out (by omega)).mono ?_
  rintro e w1 ⟨A1, cap1, rfl, hi1, hb1⟩
  have hz1 := hb1.size
  have K1 := Lib.hid (And.intro hi1 hb1)
  clear hi1 hb1
  go_wp2_with fail
  refine (cloneS a2 l1 c2 ts _ (H2.out.up K1.out.2) (by omega)).mono ?_
  rintro e w2 ⟨A2, cap2, rfl, hi2, hb2⟩
  have hz2 := hb2.size
  have K2 := Lib.hid (And.intro (K1.out.1.up hb2) (And.intro hi2 (K1.out.2.trans (hb2.mono hz1))))
  clear hi2 hb2
  obtain ⟨ps, hps⟩ : ∃ ps : List KV, ps = ss.zip ts := ⟨_, rfl⟩
  have hpl : ps.length = l1 := by rw [hps, List.length_zip, HL.out.1, HL.out.2, Nat.min_self]
  have hget : ∀ (k : Nat) (s t : ByteArray), ss[k]? = some s → ts[k]? = some t → ps[k]? = some (s, t) := fun k s t hs ht => by rw [hps, List.getElem?_zip_eq_some]; exact ⟨hs, ht⟩
  have hmem : ∀ p ∈ ps, p.1.size ≤ 1048576 ∧ p.1 ∈ ss ∧ p.2 ∈ ts := fun p hp => by
    have hz : (p.1, p.2) ∈ ss.zip ts := by rw [← hps]; exact hp
    have h1 := (List.of_mem_zip hz).1
    have h2 := tot_mem h1
    have h3 := HT.out.1
    exact ⟨by omega, h1, (List.of_mem_zip hz).2⟩
  have HP := Lib.hid (And.intro hps (And.intro hpl (And.intro hget hmem)))
  clear hps hpl hget hmem
  have hmk1 := run_makeMap_hint (P := Tryz.prog) 26 _ _ Tryz.underlying26 (l1 : Int) w2
  go_upto_block 0 with fail
  clear hmk1
  go_cut [] from 44 (fun wx => MapS w2.heap.size l1 (bmap ps) wx ∧ Below w2.heap.size w2 wx)
  case first =>
    go_wp2_with fail
    go_loopw [6] (fun s6 wr => ∃ k : Nat, s6 = .int .i64 k ∧ k ≤ l1 ∧ MapS w2.heap.size k (bmap (ps.take k)) wr ∧ Below w2.heap.size w2 wr) (fun s6 _ => l1 - (intOf s6).toNat)
    case atStart => exact ⟨0, rfl, Nat.zero_le _, World.ownsMap_made _ _ _ _, (Below.refl _ _).alloc (Nat.le_refl _) _⟩
    case round =>
      obtain ⟨k, rfl, hk, hM, hbw⟩ := hrel
      by_cases hlt : k < l1
      · obtain ⟨x, s, rfl, hsk, hc⟩ := (K2.out.1.up hbw).get hlt
        obtain ⟨y, t, rfl, htk, hd⟩ := (K2.out.2.1.up hbw).get hlt
        have hsm := HS.out.1 s (List.mem_of_getElem? hsk)
        have htm := HS.out.2 t (List.mem_of_getElem? htk)
        obtain ⟨w5, hrun5, hown5, hgrow5⟩ := World.ownsMap.update (H := Unit) (show MapS w2.heap.size k (bmap (ps.take k)) wr.drew from hM) law9 Tryz.underlying26 (by unfold maxLen; omega) (WideMaps.keyOf_string_mk (s := s) Tryz.underlying9 hsm) (plainElem_string (s := t) Tryz.underlying9 htm)
        have hd5 : Below w2.heap.size w2 w5 := (hbw.drew).grown hgrow5 hbw.size (fun j hj => by cases hj; exact Nat.le_refl _)
        have hown6 : MapS w2.heap.size (k + 1) (bmap (ps.take (k + 1))) w5 := by rw [bmap_step (HP.out.2.2.1 k s t hsk htk)]; exact hown5
        have H5 := Lib.hid (And.intro hown6 hd5)
        clear hM hbw hsk htk hsm htm hown5 hgrow5 hd5 hown6
        go_wp2_with fail
        go_region
        all_goals
          go_wp2_with fail
          exact ⟨⟨k + 1, by go_num, by omega, H5.out⟩, by simp [intOf]; omega⟩
      · obtain rfl : k = l1 := by omega
        rw [List.take_of_length_le (by rw [HP.out.2.1]; exact Nat.le_refl _)] at hM
        have H := Lib.hid (And.intro hM hbw)
        clear hM hbw
        go_wp2_with fail
        go_meet
        exact H.out
  case rest =>
    have hz3 := hcut.2.size
    have hb03 := K2.out.2.2.trans (hcut.2.mono (by omega))
    have hF3 : F.answers wc.tape := by rw [hb03.tape]; exact HF.out
    have hsz3 : Maps.size (bmap ps) ≤ 4096 := Nat.le_trans (size_le_of hcut.1) hl1
    have hk3 : ∀ k : ByteArray, has (bmap ps) (.string k.data.toList) = true → k.size ≤ 1048576 := fun k hk => by
      obtain ⟨p, hp, e⟩ := (bmap_all _).1 hk
      have e2 : k = p.1 := (kL_eq (p := (k, k)) (q := p)).1 e
      rw [e2]
      exact (HP.out.2.2.2 p hp).1
    have K3 := Lib.hid (And.intro hcut.1 (And.intro hcut.2 (And.intro hb03 (And.intro hF3 (And.intro hsz3 hk3)))))
    clear hcut hb03 hF3 hsz3 hk3
    go_wp2_with fail
    refine (zzv_any F w2.heap.size l1 (bmap ps) wc K3.out.2.2.2.1 K3.out.1 K3.out.2.2.2.2.1 K3.out.2.2.2.2.2).mono ?_
    rintro e w4 ⟨r1, D1, he1, rfl, hr1, hm1, kp1, hg1, hb4⟩
    have hz4 := hb4.size
    have hb24 := K3.out.2.1.trans (hb4.mono hz3)
    have hb04 := K3.out.2.2.1.trans (hb4.mono (by omega))
    have K4 := Lib.hid (And.intro hm1 (And.intro kp1 (And.intro hg1 (And.intro hb04 (And.intro (K2.out.1.up hb24) (K2.out.2.1.up hb24))))))
    have hrl := hm1.lt
    clear hm1 kp1 hg1 hb04 hb4 hb24
    have hl1b : l1 ≤ 4096 := hl1
    go_wp2_with fail
    go_loopw [9, 10, 11] (fun s9 s10 s11 wr => ∃ (k : Nat) (L : List KV) (bad : Bool), s9 = .int .i64 L.length ∧ s10 = .bool bad ∧ s11 = .int .i64 k ∧ k ≤ l1 ∧ L.length ≤ k ∧ Sel ps k L bad ∧ Below w4.heap.size w4 wr) (fun _ _ s11 _ => l1 - (intOf s11).toNat)
    case atStart => exact ⟨0, [], false, rfl, rfl, rfl, Nat.zero_le _, Nat.le_refl _, sel_start ps, Below.refl _ _⟩
    case round =>
      obtain ⟨k, L, bad, rfl, rfl, rfl, hk, hLk, hsel, hbw⟩ := hrel
      obtain ⟨nl, hnl⟩ : ∃ n, L.length = n := ⟨_, rfl⟩
      rw [hnl] at hLk ⊢
      have HSel := Lib.hid (And.intro hsel (And.intro hbw hnl))
      have hzw := hbw.size
      clear hsel hbw hnl
      by_cases hlt : k < l1
      · obtain ⟨x, s, rfl, hsk, hc⟩ := (K4.out.2.2.2.2.1.up HSel.out.2.1).get hlt
        obtain ⟨y, t, rfl, htk, hd⟩ := (K4.out.2.2.2.2.2.up HSel.out.2.1).get hlt
        have hsm := HS.out.1 s (List.mem_of_getElem? hsk)
        have hsz2 : s.size ≤ 1048576 := by
          have h2 := tot_mem (List.mem_of_getElem? hsk)
          have h3 := HT.out.1
          omega
        have hget := HP.out.2.2.1 k s t hsk htk
        have hbl := behind_last HP.out.1 HL.out.1 HL.out.2 hsk htk
        have HG := Lib.hid (And.intro hget (And.intro hbl (And.intro hsm hsk)))
        clear hget hbl hsm hsk htk hc hd
        go_wp2_with fail
        refine (last_any (some x) l1 cap1 ss k s wr (K4.out.2.2.2.2.1.up HSel.out.2.1) hl1b HG.out.2.2.2).mono ?_
        rintro e w5 ⟨b, rfl, hb5, hbt⟩
        have hb45 := HSel.out.2.1.trans (hb5.mono hzw)
        cases b with
        | false =>
          have hnl : ¬ LastAt ps k := fun h => by
            have := hbt.2 (HG.out.2.1.2 h)
            cases this
          have H5 := Lib.hid (And.intro (sel_skip HSel.out.1 hnl) hb45)
          clear hbt hnl hb45 hb5
          go_wp2_with fail
          exact ⟨⟨k + 1, L, bad, by rw [HSel.out.2.2], rfl, by go_num, by omega, by rw [HSel.out.2.2]; omega, H5.out⟩, by simp [intOf]; omega⟩
        | true =>
          have hll := HG.out.2.1.1 (hbt.1 rfl)
          have hm5 : MapS r1 (Maps.size (bmap ps)) D1 w5 := K4.out.1.kept (row := none) ⟨hb45.os, hb45.tape, hb45.output, hb45.size, fun k hk _ => hb45.block k hk⟩ (by simp)
          obtain ⟨c, hu, hv⟩ := look_str hm5 s HG.out.2.2.1
          have hhas : has D1 (.string s.data.toList) = goodP (s, t) := kept_last K4.out.2.1 HG.out.1 hll
          rw [hhas] at hu
          obtain ⟨x', s', hx', hs', hc⟩ := (K4.out.2.2.2.2.1.up hb45).get hlt
          obtain ⟨y', t', hy', ht', hd⟩ := (K4.out.2.2.2.2.2.up hb45).get hlt
          have H5 := Lib.hid (And.intro hll (And.intro hb45 (And.intro hv (And.intro hs' ht'))))
          obtain rfl : x = x' := Option.some.inj hx'
          obtain rfl : y = y' := Option.some.inj hy'
          obtain rfl : s = s' := by rw [HG.out.2.2.2] at hs'; exact Option.some.inj hs'
          obtain rfl : t = t' := by
            have := HP.out.2.2.1 k s t' hs' ht'
            rw [HG.out.1] at this
            exact congrArg Prod.snd (Option.some.inj this)
          clear hll hb45 hb5 hbt hm5 hv hhas hx' hy' hs' ht'
          by_cases ht0 : t.data.toList = []
          · have hte : t.toList.isEmpty = true := by rw [Lib.toList_data, ht0]; rfl
            have hgp : goodP (s, t) = false := by
              show (goodV (.lit (.string t.data.toList)) && _) = false
              rw [ht0]
              rfl
            rw [hgp] at hu
            have H6 := Lib.hid (sel_bad HSel.out.1 HG.out.1 H5.out.1 hgp)
            clear hgp ht0
            go_wp2_with fail
            exact ⟨⟨k + 1, L, true, by rw [HSel.out.2.2], rfl, by go_num, by omega, by rw [HSel.out.2.2]; omega, H6.out, H5.out.2.1⟩, by simp [intOf]; omega⟩
          · have hte : t.toList.isEmpty = false := by
              rw [Lib.toList_data]
              cases hcc : t.data.toList with
              | nil => exact absurd hcc ht0
              | cons => rfl
            have hgv : goodV (.lit (.string t.data.toList)) = true := by
              cases hcc : t.data.toList with
              | nil => exact absurd hcc ht0
              | cons => rfl
            have hgp : goodP (s, t) = okB s.data.toList := by
              show (goodV (.lit (.string t.data.toList)) && okB s.data.toList) = _
              rw [hgv]
              rfl
            rw [hgp] at hu
            have HGP := Lib.hid hgp
            clear hgp ht0 hgv
            go_wp2_with fail
            refine (clean_name s _ hsz2).mono ?_
            rintro e w6 ⟨rfl, rfl⟩
            cases hok : okB s.data.toList with
            | false =>
              have hgp := HGP.out
              rw [hok] at hu hgp
              have H6 := Lib.hid (sel_bad HSel.out.1 HG.out.1 H5.out.1 hgp)
              clear hgp hok
              go_wp2_with fail
              exact ⟨⟨k + 1, L, true, by rw [HSel.out.2.2], rfl, by go_num, by omega, by rw [HSel.out.2.2]; omega, H6.out, H5.out.2.1⟩, by simp [intOf]; omega⟩
            | true =>
              have hgp := HGP.out
              rw [hok] at hu hgp
              have H6 := Lib.hid (sel_good HSel.out.1 HG.out.1 H5.out.1 hgp)
              have hat : D1.atKey (.string s.data.toList) (.lit (.string [])) = .lit (.string t.data.toList) := kept_at K4.out.2.1 HG.out.1 H5.out.1 hgp _
              obtain rfl := str_inj H5.out.2.2.1 hat
              clear hgp hok hat
              go_wp2_with fail
              exact ⟨⟨k + 1, L ++ [(s, c)], bad, by rw [List.length_append, HSel.out.2.2]; go_num, rfl, by go_num, by omega, by rw [List.length_append, HSel.out.2.2]; simp; omega, H6.out, H5.out.2.1⟩, by simp [intOf]; omega⟩
      · obtain rfl : k = l1 := by omega
        have hbw := HSel.out.2.1
        have hm5 : MapS r1 (Maps.size (bmap ps)) D1 wr := K4.out.1.kept (row := none) ⟨hbw.os, hbw.tape, hbw.output, hbw.size, fun k hk _ => hbw.block k hk⟩ (by simp)
        have hln1 := fun ty => hm5.len Tryz.underlying26 ty
        obtain ⟨e1, rfl⟩ := sel_end (by rw [HP.out.2.1]; exact HSel.out.1) K4.out.2.1 (K4.out.1.canon law9) K4.out.2.2.1
        rw [HSel.out.2.2] at e1
        rw [e1] at hln1
        clear e1 hm5 hbw
        cases he1
        · go_wp2_with fail
          go_ret
          exact ⟨rfl, K4.out.2.2.2.1.trans (HSel.out.2.1.mono (by omega))⟩
        · go_wp2_with fail
          go_ret
          exact ⟨rfl, K4.out.2.2.2.1.trans (HSel.out.2.1.mono (by omega))⟩
end Go.Proofs.YtkdkjcljdagakaaGreatFmt
