/-
  The walk of the law fnExternalsExactSetIsStarFreePaths (for whatever function answers fmt): it returns true; conditions: those that it names.
-/
import Derived.Test.YtkdkjcljdagakaaGreatFmtZzx
import Derived.Test.YtkdkjcljdagakaaGreatFmtLst
namespace Go.Proofs.YtkdkjcljdagakaaGreatFmt
open Go.RowKit Go.Extern.Stop Go.Stop Go.Extern Go.Maps

def sL (p : ByteArray) : Lit := .string p.data.toList
theorem sL_inj {p q : ByteArray} (h : sL p = sL q) : p = q := by
  injection h with h
  rw [← Lib.mk_data p, ← Lib.mk_data q, h]
/-- The distinct texts without a star before k, and whether one before k has two. -/
structure SelX (ps : List ByteArray) (k : Nat) (L : List Lit) (bad : Bool) : Prop where
  nd : L.Nodup
  mem : ∀ l, l ∈ L ↔ ∃ i p, i < k ∧ ps[i]? = some p ∧ stars p = 0 ∧ l = sL p
  bad : bad = true ↔ ∃ i p, i < k ∧ ps[i]? = some p ∧ 2 ≤ stars p
theorem selx_start (ps : List ByteArray) : SelX ps 0 [] false := ⟨by simp, fun l => by simp, by simp⟩
theorem selx_bad {ps : List ByteArray} {L : List Lit} {k : Nat} {bad : Bool} {p : ByteArray} (h : SelX ps k L bad) (hp : ps[k]? = some p) (h2 : 2 ≤ stars p) : SelX ps (k + 1) L true := by
  refine ⟨h.nd, fun l => (h.mem l).trans ⟨?_, ?_⟩, ⟨fun _ => ⟨k, p, by omega, hp, h2⟩, fun _ => rfl⟩⟩
  · rintro ⟨i, q, hi, r⟩
    exact ⟨i, q, by omega, r⟩
  · rintro ⟨i, q, hi, h1, h3, h4⟩
    rcases lt_succ'.1 hi with hi | rfl
    · exact ⟨i, q, hi, h1, h3, h4⟩
    · rw [hp] at h1
      cases h1
      omega
theorem selx_one {ps : List ByteArray} {L : List Lit} {k : Nat} {bad : Bool} {p : ByteArray} (h : SelX ps k L bad) (hp : ps[k]? = some p) (h1 : stars p = 1) : SelX ps (k + 1) L bad := by
  refine ⟨h.nd, fun l => (h.mem l).trans ⟨?_, ?_⟩, h.bad.trans ⟨?_, ?_⟩⟩
  · rintro ⟨i, q, hi, r⟩
    exact ⟨i, q, by omega, r⟩
  · rintro ⟨i, q, hi, a1, h3, h4⟩
    rcases lt_succ'.1 hi with hi | rfl
    · exact ⟨i, q, hi, a1, h3, h4⟩
    · rw [hp] at a1
      cases a1
      omega
  · rintro ⟨i, q, hi, r⟩
    exact ⟨i, q, by omega, r⟩
  · rintro ⟨i, q, hi, a1, a2⟩
    rcases lt_succ'.1 hi with hi | rfl
    · exact ⟨i, q, hi, a1, a2⟩
    · rw [hp] at a1
      cases a1
      omega
theorem selx_zbad {ps : List ByteArray} {k : Nat} {p : ByteArray} (hp : ps[k]? = some p) (h0 : stars p = 0) : (∃ i q, i < k + 1 ∧ ps[i]? = some q ∧ 2 ≤ stars q) ↔ ∃ i q, i < k ∧ ps[i]? = some q ∧ 2 ≤ stars q := by
  constructor
  · rintro ⟨i, q, hi, a1, a2⟩
    rcases lt_succ'.1 hi with hi | rfl
    · exact ⟨i, q, hi, a1, a2⟩
    · rw [hp] at a1
      cases a1
      omega
  · rintro ⟨i, q, hi, r⟩
    exact ⟨i, q, by omega, r⟩
theorem selx_old {ps : List ByteArray} {L : List Lit} {k : Nat} {bad : Bool} {p : ByteArray} (h : SelX ps k L bad) (hp : ps[k]? = some p) (h0 : stars p = 0) (hn : ¬ Ahead ps p k) : SelX ps (k + 1) L bad := by
  refine ⟨h.nd, fun l => (h.mem l).trans ⟨?_, ?_⟩, h.bad.trans (selx_zbad hp h0).symm⟩
  · rintro ⟨i, q, hi, r⟩
    exact ⟨i, q, by omega, r⟩
  · rintro ⟨i, q, hi, a1, a2, a3⟩
    rcases lt_succ'.1 hi with hi | rfl
    · exact ⟨i, q, hi, a1, a2, a3⟩
    · rw [hp] at a1
      cases a1
      refine Classical.byContradiction fun hc => hn fun j q hj hq e => hc ⟨j, q, hj, hq, by rw [e]; exact h0, by rw [e]; exact a3⟩
theorem selx_new {ps : List ByteArray} {L : List Lit} {k : Nat} {bad : Bool} {p : ByteArray} (h : SelX ps k L bad) (hp : ps[k]? = some p) (h0 : stars p = 0) (hn : Ahead ps p k) : SelX ps (k + 1) (L ++ [sL p]) bad := by
  refine ⟨?_, fun l => ?_, h.bad.trans (selx_zbad hp h0).symm⟩
  · rw [List.nodup_append]
    refine ⟨h.nd, by simp, fun a ha b hb e => ?_⟩
    rw [List.mem_singleton] at hb
    subst hb
    obtain ⟨i, q, hi, a1, _, a3⟩ := (h.mem a).1 ha
    exact hn i q hi a1 (sL_inj (a3.symm.trans e))
  · rw [List.mem_append, List.mem_singleton, h.mem]
    constructor
    · rintro (⟨i, q, hi, r⟩ | rfl)
      · exact ⟨i, q, by omega, r⟩
      · exact ⟨k, p, by omega, hp, h0, rfl⟩
    · rintro ⟨i, q, hi, a1, a2, a3⟩
      rcases lt_succ'.1 hi with hi | rfl
      · exact .inl ⟨i, q, hi, a1, a2, a3⟩
      · rw [hp] at a1
        cases a1
        exact .inr a3
theorem selx_end {ps : List ByteArray} {L : List Lit} {bad he : Bool} {D1 D2 : DataW Unit} {n1 : Nat} {xs1 : List Value} (h : SelX ps ps.length L bad) (hs : Said ps ps.length he D1 D2 n1 xs1) (c : Canon D1) : Maps.size D1 = L.length ∧ he = bad := by
  refine ⟨size_of_has c h.nd fun k => (hs.ex k).trans (h.mem k).symm, ?_⟩
  have := hs.err.trans h.bad.symm
  cases he <;> cases bad <;> simp_all
theorem zero4 (w : World) : (zeroValue 4).run Tryz.prog w = .ok (.bool false) w := by kernel_rfl
theorem vInvB : ∀ v (y : DataW Unit × List MemPlace), plainElem Tryz.prog 4 v = some y → ∃ c : Bool, v = .bool c ∧ y = (.lit (.bool c), []) := by
  intro v y h
  unfold plainElem at h
  rw [show Tryz.prog.underlying 4 = some .bool from Tryz.underlying4] at h
  cases v <;> simp at h
  exact ⟨_, rfl, h.symm⟩
theorem look_b {b n : Nat} {D : DataW Unit} {w : World} (h : MapB b n D w) (s : ByteArray) (hs : s.size ≤ maxLen) :
    ∃ c : Bool, (Instr.lookup 31 (.map (some b)) (.string s) false).run Tryz.prog w = .ok (.bool c) w ∧ D.atKey (sL s) (.lit (.bool false)) = .lit (.bool c) := by
  obtain ⟨v, q, hr, hv⟩ := h.lookup law9 Tryz.underlying31 (zero4 w) (plainElem_bool Tryz.underlying4 false) (WideMaps.keyOf_string_mk (s := s) Tryz.underlying9 hs)
  obtain ⟨c, rfl, e⟩ := vInvB _ _ hv
  exact ⟨c, hr, congrArg Prod.fst e⟩
theorem look_bok {b n : Nat} {D : DataW Unit} {w : World} (h : MapB b n D w) (s : ByteArray) (hs : s.size ≤ maxLen) :
    ∃ c : Bool, (Instr.lookup 31 (.map (some b)) (.string s) true).run Tryz.prog w = .ok (.tuple #[.bool c, .bool (Maps.has D (sL s))]) w := by
  obtain ⟨v, q, hr, hv⟩ := h.look_ok law9 Tryz.underlying31 (zero4 w) (plainElem_bool Tryz.underlying4 false) (WideMaps.keyOf_string_mk (s := s) Tryz.underlying9 hs)
  obtain ⟨c, rfl, e⟩ := vInvB _ _ hv
  exact ⟨c, hr⟩
theorem look_yes {b n k : Nat} {D D2 : DataW Unit} {w : World} {ps : List ByteArray} {he : Bool} {n1 : Nat} {xs1 : List Value} (h : MapB b n D w) (hS : Said ps ps.length he D D2 n1 xs1) {p : ByteArray} (hp : ps[k]? = some p) (h0 : stars p = 0) (hs : p.size ≤ maxLen) :
    (Instr.lookup 31 (.map (some b)) (.string p) false).run Tryz.prog w = .ok (.bool true) w := by
  obtain ⟨c, hr, he⟩ := look_b h p hs
  have hh : Maps.has D (sL p) = true := (hS.ex _).2 ⟨k, p, (List.getElem?_eq_some_iff.1 hp).1, hp, h0, rfl⟩
  have hy := (hS.yes (sL p) (.lit (.bool false)) hh).symm.trans he
  have hc : true = c := Lit.bool.inj (DataW.lit.inj hy)
  rw [hc]
  exact hr
theorem look_no {b n : Nat} {D D2 : DataW Unit} {w : World} {ps : List ByteArray} {he : Bool} {n1 : Nat} {xs1 : List Value} (h : MapB b n D w) (hS : Said ps ps.length he D D2 n1 xs1) {p : ByteArray} (h0 : stars p ≠ 0) (hs : p.size ≤ maxLen) :
    ∃ c : Bool, (Instr.lookup 31 (.map (some b)) (.string p) true).run Tryz.prog w = .ok (.tuple #[.bool c, .bool false]) w := by
  obtain ⟨c, hr⟩ := look_bok h p hs
  have hh : Maps.has D (sL p) = false := by
    cases q : Maps.has D (sL p) with
    | false => rfl
    | true =>
      obtain ⟨i, r, _, h1, h2, h3⟩ := (hS.ex _).1 q
      rw [sL_inj h3] at h0
      exact absurd h2 h0
  rw [hh] at hr
  exact ⟨c, hr⟩

set_option maxHeartbeats 8000000 in
set_option maxRecDepth 100000 in
theorem fnExternalsExactSetIsStarFreePaths_walk (F : Interp) (a1 : Option Addr) (l1 c1 : Nat) (ps : List ByteArray) (w : World) (hF : F.answers w.tape) (h1 : InRow w a1 l1 c1 (ps.map Value.string)) (hs : ∀ s ∈ ps, s.size ≤ maxLen) :
    Calls Tryz.prog 4 #[.slice a1 l1 c1] w fun e w' => e = .returned (.bool true) ∧ Below w.heap.size w w' := by
  have hlen1 := h1.len
  rw [List.length_map] at hlen1
  have hcap1 := h1.cap
  have H1 := Lib.hid h1
  have HS := Lib.hid hs
  have HL := Lib.hid hlen1
  have HF := Lib.hid hF
  clear h1 hs hlen1 hF
  unfold maxLen at hcap1
  obtain ⟨hc1, hc2⟩ := hcap1
  go_enter Tryz.func4, Tryz.ntmps4
  go_wp2_with fail
  refine (bytes11_any a1 l1 c1 ps w H1.out HS.out).mono ?_
  rintro e w' ⟨b, rfl, rfl, hb⟩
  cases b
  · clear hb
    go_wp2_with fail
    go_ret
    exact ⟨rfl, Below.refl _ _⟩
  have hb := hb rfl
  by_cases hl1 : l1 ≤ 4096
  rotate_left
  · clear hb
    go_wp2_with fail
    go_ret
    exact ⟨rfl, Below.refl _ _⟩
  obtain ⟨t1, ht1⟩ : ∃ t, t = tot ps := ⟨_, rfl⟩
  have HT := Lib.hid ht1
  have hsb1 := fun wx (h : InRow wx a1 l1 c1 (ps.map Value.string)) => strBytes_any a1 l1 c1 ps wx h hl1 (by omega)
  rw [← ht1] at hsb1 hb
  have HSB := Lib.hid hsb1
  clear hsb1 ht1
  by_cases hsz : 8 * l1 + t1 ≤ 1048576
  rotate_left
  · go_wp2_with fail
    refine (HSB.out _ H1.out).mono ?_
    rintro e w' ⟨rfl, rfl⟩
    go_wp2_with fail
    go_ret
    exact ⟨rfl, Below.refl _ _⟩
  go_wp2_with fail
  refine (HSB.out _ H1.out).mono ?_
  rintro e w' ⟨rfl, rfl⟩
  go_wp2_with fail
  refine (cloneS a1 l1 c1 ps _ H1.out (by omega)).mono ?_
  rintro e w1 ⟨A1, cap1, rfl, hi1, hb1⟩
  have hz1 := hb1.size
  have hpz : ∀ p ∈ ps, p.size ≤ 1048576 := fun p hp => by
    have h2 := tot_mem hp
    have h3 := HT.out
    omega
  have hF1 : F.answers w1.tape := by rw [hb1.tape]; exact HF.out
  have har : ∀ x, A1 = some x → ps.map Value.string ≠ [] → x.block < w1.heap.size := fun x hx hn => by
    have h0 : 0 < l1 := by
      rw [← HL.out]
      cases hps : ps with
      | nil => rw [hps] at hn; exact absurd rfl hn
      | cons => simp
    obtain ⟨y, s, hy, _, hc⟩ := hi1.get h0
    rw [hx] at hy
    cases hy
    have := World.block_lt_of_cell? w1 _ hc
    rwa [add_block] at this
  have K1 := Lib.hid (And.intro hi1 (And.intro hb1 (And.intro hpz (And.intro hF1 har))))
  clear hi1 hb1 hpz hF1 har
  go_wp2_with fail
  refine (zzx_any F A1 l1 cap1 ps w1 K1.out.2.2.2.1 K1.out.1 K1.out.2.2.2.2 hl1 K1.out.2.2.1).mono ?_
  rintro e w2 ⟨m1, m2, v1, v2, he, k1, k2, D1, D2, n1, xs1, rfl, hm1, hm2, hr1, ⟨a2, l2, cp2, rfl⟩, hSd, hb2, hn1, hn2, hn3⟩
  obtain ⟨a3, l3, cp3, rfl⟩ := own_slice hr1
  have hz2 := hb2.size
  have K2 := Lib.hid (And.intro hm1 (And.intro hSd hb2))
  clear hm1 hm2 hr1 hSd hb2
  go_upto_region 7 with fail
  obtain ⟨w3, hw3⟩ : ∃ w3, w3 = w2.alloc (.cells #[.map (some m1), .slice a3 l3 cp3, .map (some m2), .slice a2 l2 cp2] 36) := ⟨_, rfl⟩
  have hb3 : Below w2.heap.size w2 w3 := by rw [hw3]; exact (Below.refl _ _).alloc (Nat.le_refl _) _
  have hs3 : w3.heap[w2.heap.size]? = some (.cells #[.map (some m1), .slice a3 l3 cp3, .map (some m2), .slice a2 l2 cp2] 36 (0, 0)) := by rw [hw3]; exact heap_alloc_new w2 _
  have hm3 : MapB m1 k1 D1 w3 := by rw [hw3]; exact K2.out.1.alloc _
  have hz3 := hb3.size
  have hb13 := K2.out.2.2.trans (hb3.mono hz2)
  have hb03 := K1.out.2.1.trans (hb13.mono hz1)
  have hrow3 := K1.out.1.up hb13
  rw [← hw3]
  have n3 := (Array.getElem?_eq_some_iff.1 hs3).1
  have K3 := Lib.hid (And.intro hs3 (And.intro hm3 (And.intro hb03 hrow3)))
  clear hw3 hb3 hs3 hm3 hb13 hb03 hrow3
  go_wp2_with fail
  go_loopw [5, 6, 7] (fun s5 s6 s7 wr => ∃ (k : Nat) (L : List Lit) (bad : Bool), s5 = .int .i64 L.length ∧ s6 = .bool bad ∧ s7 = .int .i64 k ∧ k ≤ l1 ∧ L.length ≤ k ∧ SelX ps k L bad ∧ Below w3.heap.size w3 wr) (fun _ _ s7 _ => l1 - (intOf s7).toNat)
  case atStart => exact ⟨0, [], false, rfl, rfl, rfl, Nat.zero_le _, Nat.le_refl _, selx_start ps, Below.refl _ _⟩
  case round =>
    obtain ⟨k, L, bad, rfl, rfl, rfl, hk, hLk, hsel, hbw⟩ := hrel
    obtain ⟨nl, hnl⟩ : ∃ n, L.length = n := ⟨_, rfl⟩
    rw [hnl] at hLk ⊢
    have hz := hbw.size
    have hst := (hbw.block w2.heap.size n3).trans K3.out.1
    have hmw : MapB m1 k1 D1 wr := K3.out.2.1.kept (grown_of_below hbw) (by simp)
    have hrw := K3.out.2.2.2.up hbw
    have HSel := Lib.hid (And.intro hsel (And.intro hbw (And.intro hnl (And.intro hmw hrw))))
    obtain ⟨nst, d0, _, _, _, _, _, _, _⟩ := four_at hst
    clear hsel hnl hst
    by_cases hlt : k < l1
    · obtain ⟨x, p, rfl, hp, hc⟩ := hrw.get hlt
      have hpm := HS.out p (List.mem_of_getElem? hp)
      have hps : p.size ≤ 1048576 := K1.out.2.2.1 p (List.mem_of_getElem? hp)
      have HG := Lib.hid (And.intro hp hpm)
      clear hrw hbw
      go_upto_region 13 with fail
      go_wp2_with fail
      refine (countStar_any p _ hps).mono ?_
      rintro e w' ⟨rfl, rfl⟩
      clear hc
      by_cases h0 : stars p = 0
      · have hlk := look_yes hmw K2.out.2.1 hp h0 hpm
        have H0 := Lib.hid h0
        have e0 : (((stars p : Nat) : Int) == 0) = true := by rw [h0]; rfl
        clear hp hpm hmw h0
        go_wp2_with fail
        refine (first_any (some x) l1 cap1 ps k p wr HSel.out.2.2.2.2 hl1 HG.out.1).mono ?_
        rintro e w5 ⟨b, rfl, hb5, hbt⟩
        have HB := Lib.hid (And.intro (HSel.out.2.1.trans (hb5.mono hz)) hbt)
        clear hb5 hbt hlk
        cases b
        · have H6 := Lib.hid (selx_old HSel.out.1 HG.out.1 H0.out (fun h => by have := HB.out.2.2 h; cases this))
          go_wp2_with fail
          exact ⟨⟨k + 1, L, bad, by rw [HSel.out.2.2.1], rfl, by go_num, by omega, by rw [HSel.out.2.2.1]; omega, H6.out, HB.out.1⟩, by simp [intOf]; omega⟩
        · have H6 := Lib.hid (selx_new HSel.out.1 HG.out.1 H0.out (HB.out.2.1 rfl))
          go_wp2_with fail
          exact ⟨⟨k + 1, L ++ [sL p], bad, by rw [List.length_append, HSel.out.2.2.1]; go_num, rfl, by go_num, by omega, by rw [List.length_append, HSel.out.2.2.1]; simp; omega, H6.out, HB.out.1⟩, by simp [intOf]; omega⟩
      · obtain ⟨c, hlk⟩ := look_no hmw K2.out.2.1 h0 hpm
        have e0 : (((stars p : Nat) : Int) == 0) = false := by simpa using h0
        by_cases h2 : 2 ≤ stars p
        · have H6 := Lib.hid (selx_bad HSel.out.1 hp h2)
          clear hp hpm hmw h0
          go_wp2_with fail
          exact ⟨⟨k + 1, L, true, by rw [HSel.out.2.2.1], rfl, by go_num, by omega, by rw [HSel.out.2.2.1]; omega, H6.out, HSel.out.2.1⟩, by simp [intOf]; omega⟩
        · have H6 := Lib.hid (selx_one HSel.out.1 hp (by omega))
          clear hp hpm hmw h0
          go_wp2_with fail
          exact ⟨⟨k + 1, L, bad, by rw [HSel.out.2.2.1], rfl, by go_num, by omega, by rw [HSel.out.2.2.1]; omega, H6.out, HSel.out.2.1⟩, by simp [intOf]; omega⟩
    · obtain rfl : k = l1 := by omega
      have hln1 := fun ty => hmw.len Tryz.underlying31 ty
      obtain ⟨e1, rfl⟩ := selx_end (by rw [HL.out]; exact HSel.out.1) K2.out.2.1 (hmw.canon law9)
      rw [HSel.out.2.2.1] at e1
      rw [e1] at hln1
      clear e1 hmw hbw hrw
      cases he
      · go_wp2_with fail
        go_ret
        exact ⟨rfl, K3.out.2.2.1.trans (HSel.out.2.1.mono (by omega))⟩
      · go_wp2_with fail
        go_ret
        exact ⟨rfl, K3.out.2.2.1.trans (HSel.out.2.1.mono (by omega))⟩
end Go.Proofs.YtkdkjcljdagakaaGreatFmt
