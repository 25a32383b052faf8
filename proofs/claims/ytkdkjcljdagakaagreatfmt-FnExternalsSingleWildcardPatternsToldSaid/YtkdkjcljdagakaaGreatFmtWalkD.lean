/-
  The walk of the law fnExternalsSingleWildcardPatterns (for whatever function answers fmt): it returns true; conditions: those that it names.
-/
import Derived.Test.YtkdkjcljdagakaaGreatFmtZzx
namespace Go.Proofs.YtkdkjcljdagakaaGreatFmt
open Go.RowKit Go.Extern.Stop Go.Stop Go.Extern Go.Maps

theorem stars_none {p : ByteArray} (h : 42 ∉ p.data.toList) : stars p = 0 := List.count_eq_zero.2 h
theorem split_one {p : ByteArray} (h : stars p = 1) : ∃ q s : ByteArray, pat p = [.string q, .string s] ∧ stars q = 0 ∧ stars s = 0 ∧ q.size + 1 + s.size = p.size ∧ p.extract 0 q.size = q ∧ p.data.toList[q.size]? = some 42 ∧ p.extract (q.size + 1) p.size = s := by
  rcases ix_cases p with ⟨_, h0⟩ | ⟨i, hi, hlt, hst, hno, hat⟩
  · omega
  · have hq : (p.extract 0 i).size = i := by rw [ByteArray.size_extract]; omega
    have hs : (p.extract (i + 1) p.size).size = p.size - (i + 1) := by rw [ByteArray.size_extract]; omega
    refine ⟨p.extract 0 i, p.extract (i + 1) p.size, ?_, ?_, ?_, by omega, by rw [hq], by rw [hq]; exact hat, by rw [hq]⟩
    · unfold pat
      rw [hi]
      rfl
    · refine stars_none fun hm => hno ?_
      rw [Lib.extract_data] at hm
      simpa using hm
    · unfold stars
      omega
theorem flat2 : ∀ (ps : List ByteArray) (i : Nat) (p q s : ByteArray), ps[i]? = some p → pat p = [.string q, .string s] → (ps.flatMap pat)[i * 2]? = some (.string q) ∧ (ps.flatMap pat)[i * 2 + 1]? = some (.string s)
  | [], _, _, _, _, h, _ => by cases h
  | a :: r, 0, p, q, s, h, hp => by
    cases h
    rw [List.flatMap_cons, hp]
    exact ⟨rfl, rfl⟩
  | a :: r, i + 1, p, q, s, h, hp => by
    have := flat2 r i p q s h hp
    have e : ∀ j, (List.flatMap pat (a :: r))[j + 2]? = (r.flatMap pat)[j]? := fun j => by
      rw [List.flatMap_cons]
      show (_ :: _ :: _)[j + 2]? = _
      simp
    rw [show (i + 1) * 2 = i * 2 + 2 by omega, show i * 2 + 2 + 1 = i * 2 + 1 + 2 by omega, e, e]
    exact this
theorem addE (g j : Nat) : (⟨g, 0, none⟩ : Addr).add j = ⟨g, j, none⟩ := by unfold Addr.add; split <;> simp_all
theorem countStar_zero {s : ByteArray} (h : stars s = 0) (w : World) (hs : s.size ≤ 1048576) : Calls Tryz.prog 13 #[.string s] w fun e w' => e = .returned (.int .i64 0) ∧ w = w' :=
  (countStar_any s w hs).mono fun _ _ ⟨e, hw⟩ => ⟨by rw [e, h]; rfl, hw⟩
theorem size_nil : Maps.size (.map [] : DataW Unit) = 0 := rfl

set_option maxHeartbeats 8000000 in
set_option maxRecDepth 100000 in
theorem fnExternalsSingleWildcardPatterns_walk (F : Interp) (a1 : Option Addr) (l1 c1 : Nat) (ps : List ByteArray) (w : World) (hF : F.answers w.tape) (h1 : InRow w a1 l1 c1 (ps.map Value.string)) (hs : ∀ s ∈ ps, s.size ≤ maxLen) :
    Calls Tryz.prog 5 #[.slice a1 l1 c1] w fun e w' => e = .returned (.bool true) ∧ Below w.heap.size w w' := by
  have hlen1 := h1.len
  rw [List.length_map] at hlen1
  have hcap1 := h1.cap
  have H1 := Lib.hid h1
  have HS := Lib.hid hs
  have HL := Lib.hid hlen1
  have HF := Lib.hid hF
  clear h1 hs hlen1 hF
  unfold maxLen at hcap1
  obtain ⟨hc1, hc2⟩ := hcap1
  go_enter Tryz.func5, Tryz.ntmps5
  go_wp2_with fail
  refine (bytes15_any a1 l1 c1 ps w H1.out HS.out).mono ?_
  rintro e w' ⟨b, rfl, rfl, hb⟩
  cases b
  · clear hb
    go_wp2_with fail
    go_ret
    exact ⟨rfl, Below.refl _ _⟩
  have hb := hb rfl
  by_cases hl1 : l1 ≤ 4096
  rotate_left
  · clear hb
    go_wp2_with fail
    go_ret
    exact ⟨rfl, Below.refl _ _⟩
  obtain ⟨t1, ht1⟩ : ∃ t, t = tot ps := ⟨_, rfl⟩
  have HT := Lib.hid ht1
  have hsb1 := fun wx (h : InRow wx a1 l1 c1 (ps.map Value.string)) => strBytes_any a1 l1 c1 ps wx h hl1 (by omega)
  rw [← ht1] at hsb1 hb
  have HSB := Lib.hid hsb1
  clear hsb1 ht1
  by_cases hsz : 8 * l1 + t1 ≤ 1048576
  rotate_left
  · go_wp2_with fail
    refine (HSB.out _ H1.out).mono ?_
    rintro e w' ⟨rfl, rfl⟩
    go_wp2_with fail
    go_ret
    exact ⟨rfl, Below.refl _ _⟩
  have hpz : ∀ p ∈ ps, p.size ≤ 1048576 := fun p hp => by
    have h2 := tot_mem hp
    have h3 := HT.out
    omega
  have HPZ := Lib.hid hpz
  clear hpz
  go_wp2_with fail
  refine (HSB.out _ H1.out).mono ?_
  rintro e w' ⟨rfl, rfl⟩
  go_wp2_with fail
  go_loop [3] (fun s3 => ∃ k : Nat, s3 = .int .i64 k ∧ k ≤ l1 ∧ ∀ (i : Nat) (p : ByteArray), i < k → ps[i]? = some p → stars p = 1) (fun s3 => l1 - (intOf s3).toNat)
  case atStart => exact ⟨0, rfl, Nat.zero_le _, fun i p h => absurd h (Nat.not_lt_zero _)⟩
  case round =>
    obtain ⟨k, rfl, hk, hall⟩ := hrel
    have HA := Lib.hid hall
    clear hall
    by_cases hlt : k < l1
    · obtain ⟨x, p, rfl, hp, hc⟩ := H1.out.get hlt
      have hps : p.size ≤ 1048576 := HPZ.out p (List.mem_of_getElem? hp)
      have HG := Lib.hid hp
      clear hp
      go_wp2_with fail
      refine (countStar_any p _ hps).mono ?_
      rintro e w' ⟨rfl, rfl⟩
      clear hc
      by_cases h0 : stars p = 1
      · have hnx : ∀ (i : Nat) (p : ByteArray), i < k + 1 → ps[i]? = some p → stars p = 1 := fun i q hi hq => by
          rcases lt_succ'.1 hi with hi | rfl
          · exact HA.out i q hi hq
          · rw [HG.out] at hq
            cases hq
            exact h0
        have HX := Lib.hid hnx
        have e0 : (((stars p : Nat) : Int) == 1) = true := by rw [h0]; rfl
        clear h0 hnx
        go_wp2_with fail
        go_round
        case rel => exact ⟨k + 1, by go_num, by omega, HX.out⟩
        case measure => simp [intOf]; omega
      · have e0 : (((stars p : Nat) : Int) == 1) = false := by simpa using (fun h => h0 (by omega) : ¬ ((stars p : Nat) : Int) = 1)
        clear h0
        go_wp2_with fail
        go_ret
        exact ⟨rfl, Below.refl _ _⟩
    · obtain rfl : k = l1 := by omega
      clear hlt
      go_wp2_with fail
      refine (cloneS a1 k c1 ps _ H1.out (by omega)).mono ?_
      rintro e w1 ⟨A1, cap1, rfl, hi1, hb1⟩
      have hz1 := hb1.size
      have hF1 : F.answers w1.tape := by rw [hb1.tape]; exact HF.out
      have har : ∀ x, A1 = some x → ps.map Value.string ≠ [] → x.block < w1.heap.size := fun x hx hn => by
        have h0 : 0 < k := by
          rw [← HL.out]
          cases hps : ps with
          | nil => rw [hps] at hn; exact absurd rfl hn
          | cons => simp
        obtain ⟨y, s, hy, _, hc⟩ := hi1.get h0
        rw [hx] at hy
        cases hy
        have := World.block_lt_of_cell? w1 _ hc
        rwa [add_block] at this
      have K1 := Lib.hid (And.intro hi1 (And.intro hb1 (And.intro hF1 har)))
      clear hi1 hb1 hF1 har
      go_wp2_with fail
      refine (zzx_any F A1 k cap1 ps w1 K1.out.2.2.1 K1.out.1 K1.out.2.2.2 hl1 HPZ.out).mono ?_
      rintro e w2 ⟨m1, m2, v1, v2, he, k1, k2, D1, D2, n1, xs1, rfl, hm1, hm2, hr1, ⟨a2, l2, cp2, rfl⟩, hSd, hb2, hn1, hn2, hn3⟩
      obtain ⟨e1, e2, e3, e4⟩ := hSd.one (fun i p hi hp => HA.out i p (by rw [HL.out] at hi; exact hi) hp)
      have e5 : he = false := by
        cases he with
        | false => rfl
        | true =>
          obtain ⟨i, p, hi, hp, h2⟩ := hSd.err.1 rfl
          have := HA.out i p (by rw [HL.out] at hi; exact hi) hp
          omega
      rw [HL.out] at e1
      subst e1 e2 e3 e4 e5
      obtain ⟨a3, cp3, rfl⟩ : ∃ a c, v1 = .slice a n1 c := by
        rcases hr1.2 with ⟨rfl, rfl⟩ | ⟨g, cap, cur, rfl, hb, hg, rest⟩
        · exact ⟨_, _, rfl⟩
        · exact ⟨_, _, rfl⟩
      rw [List.take_of_length_le (Nat.le_refl _)] at hr1
      have hz2 := hb2.size
      have K2 := Lib.hid (And.intro hm1 (And.intro hm2 (And.intro hr1 hb2)))
      clear hm1 hm2 hr1 hSd hb2
      go_upto_region 12 with fail
      obtain ⟨w3, hw3⟩ : ∃ w3, w3 = w2.alloc (.cells #[.map (some m1), .slice a3 n1 cp3, .map (some m2), .slice a2 l2 cp2] 36) := ⟨_, rfl⟩
      have hb3 : Below w2.heap.size w2 w3 := by rw [hw3]; exact (Below.refl _ _).alloc (Nat.le_refl _) _
      have hs3 : w3.heap[w2.heap.size]? = some (.cells #[.map (some m1), .slice a3 n1 cp3, .map (some m2), .slice a2 l2 cp2] 36 (0, 0)) := by rw [hw3]; exact heap_alloc_new w2 _
      have hm3 : MapB m1 k1 (.map []) w3 := by rw [hw3]; exact K2.out.1.alloc _
      have hm4 : MapB m2 k2 (.map []) w3 := by rw [hw3]; exact K2.out.2.1.alloc _
      have hr3 : w3.ownsRow 0 43 2 (.slice a3 n1 cp3) n1 (ps.flatMap pat) := by rw [hw3]; exact K2.out.2.2.1.alloc _
      have hz3 := hb3.size
      have hb13 := K2.out.2.2.2.trans (hb3.mono hz2)
      have hb03 := K1.out.2.1.trans (hb13.mono hz1)
      have hrow3 := K1.out.1.up hb13
      rw [← hw3]
      obtain ⟨n3, d0, d1, d2, d3, _, _, _, _⟩ := four_at hs3
      have hln1 := fun ty => hm3.len Tryz.underlying31 ty
      have hln2 := fun ty => hm4.len Tryz.underlying31 ty
      rw [size_nil] at hln1 hln2
      have K3 := Lib.hid (And.intro hr3 (And.intro hb03 hrow3))
      clear hw3 hb3 hs3 hm3 hm4 hb13 hb03 hrow3 hr3
      go_upto_region 18 with fail
      clear hln1 hln2
      go_wp2_with fail
      go_loop [6] (fun s6 => ∃ k : Nat, s6 = .int .i64 k ∧ k ≤ n1) (fun s6 => n1 - (intOf s6).toNat)
      case atStart => exact ⟨0, rfl, Nat.zero_le _⟩
      case round =>
        obtain ⟨k, rfl, hk⟩ := hrel
        by_cases hlt : k < n1
        · obtain ⟨x, p, rfl, hp, hc⟩ := K3.out.2.2.get hlt
          have hps : p.size ≤ 1048576 := HPZ.out p (List.mem_of_getElem? hp)
          obtain ⟨q, t, hpat, hq0, ht0, hsum, hq, h42, ht⟩ := split_one (HA.out k p hlt hp)
          obtain ⟨f1, f2⟩ := flat2 ps k p q t hp hpat
          obtain ⟨g, hg⟩ : ∃ g, a3 = some ⟨g, 0, none⟩ := by
            rcases K3.out.1.2 with ⟨_, h0⟩ | ⟨g, cap, cur, e, _⟩
            · omega
            · injection e with e _ _
              exact ⟨g, e⟩
          subst hg
          have e1 := K3.out.1.cells (g := g) rfl _ _ f1
          have e2 := K3.out.1.cells (g := g) rfl _ _ f2
          rw [addE] at e1 e2
          have HQ := Lib.hid (And.intro hq0 (And.intro ht0 (And.intro hsum (And.intro hq (And.intro h42 ht)))))
          clear hq0 ht0 hsum hq h42 ht
          clear f1 f2 hpat hp
          go_upto_region 24 with fail
          go_wp2_with fail
          refine (countStar_zero HQ.out.1 _ (by have := HQ.out.2.2.1; omega)).mono ?_
          rintro e w' ⟨rfl, rfl⟩
          go_wp2_with fail
          refine (countStar_zero HQ.out.2.1 _ (by have := HQ.out.2.2.1; omega)).mono ?_
          rintro e w' ⟨rfl, rfl⟩
          go_upto_region 26 with fail
          have hsum := HQ.out.2.2.1
          have b1 : q.size < p.size := by omega
          have b2 : q.size + 1 + t.size ≤ p.size := by omega
          have b2' : p.size ≤ q.size + 1 + t.size := by omega
          have b6 : q.size ≤ 1048576 := by omega
          have b7 : t.size ≤ 1048576 := by omega
          have b3 : (p.extract 0 q.size).toList = q.toList := by rw [HQ.out.2.2.2.1]
          have b4 : (p.extract (q.size + 1) p.size).toList = t.toList := by rw [HQ.out.2.2.2.2.2]
          have b5 : ((p[q.size]'b1).toNat : Int) = 42 := by
            have h := HQ.out.2.2.2.2.1
            rw [Lib.data_getElem? p q.size b1] at h
            rw [Option.some.inj h]
            rfl
          clear hsum
          go_wp2_with fail
          go_round
          case rel => exact ⟨k + 1, by go_num, by omega⟩
          case measure => simp [intOf]; omega
        · obtain rfl : k = n1 := by omega
          go_wp2_with fail
          go_ret
          exact ⟨rfl, K3.out.2.1⟩
end Go.Proofs.YtkdkjcljdagakaaGreatFmt
