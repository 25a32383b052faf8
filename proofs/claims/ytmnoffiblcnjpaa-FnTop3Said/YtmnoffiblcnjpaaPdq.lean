/-
  sort.pdqsort over the elements: the range is sorted; conditions: those that each lemma names (LenC: the contract of bits.Len).
-/
import Derived.Test.YtmnoffiblcnjpaaQin
namespace Go.Proofs.Ytmnoffiblcnjpaa
open Go.RowKit Go.Sort

theorem part_at {w0 w : World} {g N : Nat} {d : Array El} (h : R w0 g N d w) (hN : N ≤ 65536) {x y z : Int} (a b p : Nat) (h1 : a ≤ p) (h2 : p < b) (hb : b ≤ N) (hx : x = a) (hy : y = b) (hz : z = p) :
    Calls Try.prog 31 #[dv g N, .int .i64 x, .int .i64 y, .int .i64 z] w (PartPost w0 g N a b d w) := by
  subst hx hy hz
  exact part_any h hN a b p h1 h2 hb
theorem peq_at {w0 w : World} {g N : Nat} {d : Array El} (h : R w0 g N d w) (hN : N ≤ 65536) {x y z : Int} (a b q : Nat) (h1 : a ≤ q) (h2 : q < b) (hb : b ≤ N) (hx : x = a) (hy : y = b) (hz : z = q) :
    Calls Try.prog 30 #[dv g N, .int .i64 x, .int .i64 y, .int .i64 z] w (PeqPost w0 g N a b d[q]! d w) := by
  subst hx hy hz
  exact peq_any h hN a b q h1 h2 hb
theorem pin_at {w0 w : World} {g N : Nat} {d : Array El} (h : R w0 g N d w) (hN : N ≤ 65536) {x y : Int} (a b : Nat) (hab : a < b) (hb : b ≤ N) (hx : x = a) (hy : y = b) :
    Calls Try.prog 29 #[dv g N, .int .i64 x, .int .i64 y] w (PinPost w0 g N a b d w) := by
  subst hx hy
  exact pin_any h hN a b hab hb
def PdqPost (w0 : World) (g N a b : Nat) (d : Array El) (w : World) (e : Ending) (w' : World) : Prop := ∃ d' : Array El, e = .returned (.tuple #[]) ∧ R w0 g N d' w' ∧ Up w0 w w' ∧ PermIn a b d d' ∧ SortedIn ltE a b d'
/-- What holds at a round's head and between its steps. -/
structure Qs (w0 : World) (g N a0 b0 a b : Nat) (d : Array El) (w : World) (dk : Array El) (wk : World) : Prop where
  r : R w0 g N dk wk
  u : Up w0 w wk
  q : QInv a0 b0 a b d dk
theorem Qs.turn {w0 w wk w2 : World} {g N a0 b0 a b : Nat} {d dk d' : Array El} (h : Qs w0 g N a0 b0 a b d w dk wk) (hb : b0 ≤ N) (r : R w0 g N d' w2) (u : Up w0 wk w2) (hp : PermIn a b dk d') : Qs w0 g N a0 b0 a b d w d' w2 :=
  ⟨r, h.u.trans u, h.q.turn h.r.size hb hp⟩
theorem Qs.still {w0 w wk w2 : World} {g N a0 b0 a b : Nat} {d dk : Array El} (h : Qs w0 g N a0 b0 a b d w dk wk) (r : R w0 g N dk w2) (u : Up w0 wk w2) : Qs w0 g N a0 b0 a b d w dk w2 :=
  ⟨r, h.u.trans u, h.q⟩
theorem Qs.stop {w0 w wk w2 : World} {g N a0 b0 a b : Nat} {d dk d' : Array El} (h : Qs w0 g N a0 b0 a b d w dk wk) (hb : b0 ≤ N) (r : R w0 g N d' w2) (u : Up w0 wk w2) (hp : PermIn a b dk d') (hS : SortedIn ltE a b d') : PdqPost w0 g N a0 b0 d w (.returned (.tuple #[])) w2 :=
  have k := h.q.close h.r.size hb hp hS
  ⟨d', rfl, r, h.u.trans u, k.1, k.2⟩
def PdqC (w0 : World) (g N n : Nat) : Prop := ∀ (a b lim : Nat) (d : Array El) (w : World) (x y z : Int), b - a < n → a ≤ b → b ≤ N → lim ≤ 64 → x = a → y = b → z = lim → Below ltE a b d → R w0 g N d w →
  Calls Try.prog 19 #[dv g N, .int .i64 x, .int .i64 y, .int .i64 z] w (PdqPost w0 g N a b d w)

set_option maxHeartbeats 40000000 in
set_option maxRecDepth 100000 in
theorem pdq_step (HL : LenC) {w0 : World} {g N n : Nat} (hN : N ≤ 65536) (IH : PdqC w0 g N n) (a0 b0 lim0 : Nat) (d : Array El) (w : World) (hn : b0 - a0 < n + 1) (hab0 : a0 ≤ b0) (hb0 : b0 ≤ N) (hl0 : lim0 ≤ 64) (hB : Below ltE a0 b0 d) (h : R w0 g N d w) :
    Calls Try.prog 19 #[dv g N, .int .i64 a0, .int .i64 b0, .int .i64 lim0] w (PdqPost w0 g N a0 b0 d w) := by
  have HS := Lib.hid (Qs.mk h (Up.refl w0 w) (QInv.start hab0 hB))
  have HI := Lib.hid (And.intro HL IH)
  have mL := meth_less g N
  clear h hB HL IH
  go_enter Try.func19, Try.ntmps19
  go_wp2_with fail
  go_loopw [1, 2, 3, 8, 9] (fun s1 s2 s3 s8 s9 wr => ∃ (a b lim : Nat) (bal pt : Bool) (dk : Array El), s1 = .int .i64 a ∧ s2 = .int .i64 b ∧ s3 = .int .i64 lim ∧ s8 = .bool bal ∧ s9 = .bool pt ∧ lim ≤ 64 ∧ Qs w0 g N a0 b0 a b d w dk wr) (fun s1 s2 _ _ _ _ => (intOf s2).toNat - (intOf s1).toNat)
  case atStart => exact ⟨a0, b0, lim0, true, true, d, rfl, rfl, rfl, rfl, rfl, hl0, HS.out⟩
  case round =>
    obtain ⟨a, b, lim, bal, pt, dk, rfl, rfl, rfl, rfl, rfl, hlim, hQ⟩ := hrel
    have qa := hQ.q.h0
    have qb := hQ.q.h2
    have qab := hQ.q.h1
    have S0 := Lib.hid hQ
    clear hQ
    by_cases h12 : b - a ≤ 12
    · have h12' : (b : Int) - (a : Int) ≤ 12 := by omega
      go_wp2_with fail
      refine (ins_any S0.out.r hN a b (by omega) (by omega)).mono ?_
      rintro e wi ⟨rfl, hRi, hUi⟩
      have hpi := insertionSort_holds swoE dk a b (by omega) (by rw [S0.out.r.size]; omega)
      have SI := Lib.hid (And.intro hRi (And.intro hUi hpi))
      clear hRi hUi hpi
      go_wp2_with fail
      go_end0
      exact S0.out.stop hb0 SI.out.1 SI.out.2.1 SI.out.2.2.1 SI.out.2.2.2
    · have h12' : ¬ (b : Int) - (a : Int) ≤ 12 := by omega
      by_cases hlz : lim = 0
      · subst hlz
        go_wp2_with fail
        refine (heap_any S0.out.r hN a b (by omega) (by omega)).mono ?_
        rintro e wi ⟨rfl, hRi, hUi⟩
        have hpi := heapSort_holds swoE dk a b (by omega) (by rw [S0.out.r.size]; omega)
        have SI := Lib.hid (And.intro hRi (And.intro hUi hpi))
        clear hRi hUi hpi
        go_wp2_with fail
        go_end0
        exact S0.out.stop hb0 SI.out.1 SI.out.2.1 SI.out.2.2.1 SI.out.2.2.2
      · have hlz' : ¬ (lim : Int) = 0 := by omega
        cases bal with
        | true =>
          go_wp2_with fail
          refine (piv_any S0.out.r hN a b (by omega) (by omega)).mono ?_
          rintro e wv ⟨p, hint, rfl, hp1, hp2, hh, hRv, hUv⟩
          have SV := Lib.hid (S0.out.still hRv hUv)
          clear hRv hUv
          by_cases hh2 : hint = 2
          · subst hh2
            go_wp2_with fail
            refine (rev_any SV.out.r hN a b (by omega) (by omega)).mono ?_
            rintro e wt ⟨rfl, hRt, hUt⟩
            have hpr := reverseRange_holds dk a b (by omega) (by rw [SV.out.r.size]; omega)
            obtain ⟨dr, hdr⟩ : ∃ dr, reverseRange dk a b = dr := ⟨_, rfl⟩
            rw [hdr] at hRt hpr
            have SR := Lib.hid (SV.out.turn hb0 hRt hUt hpr)
            clear hRt hUt hpr hdr
            cases pt with
            | true =>
              go_wp2_with fail
              refine (pin_at SR.out.r hN a b (by omega) (by omega) rfl rfl).mono ?_
              rintro e wi ⟨fi, rfl, hRi, hUi, hfi⟩
              have hpi := partialInsertionSort_holds swoE dr a b (by omega) (by rw [SR.out.r.size]; omega) SR.out.q.below
              obtain ⟨di, hdi⟩ : ∃ di, (partialInsertionSort ltE dr a b).1 = di := ⟨_, rfl⟩
              rw [hfi, hdi] at hpi
              rw [hdi] at hRi
              have SI := Lib.hid (And.intro (SR.out.turn hb0 hRi hUi hpi.1) (And.intro (SR.out) (And.intro hRi (And.intro hUi hpi))))
              clear hRi hUi hfi hpi hdi
              cases fi with
              | true =>
                go_wp2_with fail
                go_end0
                exact SI.out.2.1.stop hb0 SI.out.2.2.1 SI.out.2.2.2.1 SI.out.2.2.2.2.1 (SI.out.2.2.2.2.2 (by trivial))
              | false =>
                have SJ := Lib.hid SI.out.1
                clear SI
                by_cases ha0 : a = 0
                · go_wp2_with fail
                  refine (part_at SJ.out.r hN a b (b - 1 - (p - a)) (by omega) (by omega) (by omega) (by omega) (by omega) (by omega)).mono ?_
                  rintro e wp ⟨m, fl, dp, rfl, hRp, hUp, hPt⟩
                  have hm1 := hPt.am
                  have hm2 := hPt.mb
                  have SP := Lib.hid (And.intro hRp (And.intro (SJ.out.u.trans hUp) hPt))
                  clear hRp hUp hPt
                  by_cases hlr : m - a < b - m
                  · go_wp2_with fail
                    refine (HI.out.2 a m lim dp wp _ _ _ (by omega) (by omega) (by omega) (by omega) (by omega) (by omega) (by omega) (SP.out.2.2.belowL SJ.out.r.size (by omega) SJ.out.q.below) SP.out.1).mono ?_
                    rintro e wq ⟨dq, rfl, hRq, hUq, hPq, hSq⟩
                    have SQ := Lib.hid (Qs.mk hRq (SP.out.2.1.trans hUq) (SJ.out.q.left SJ.out.r.size (by omega) SP.out.2.2 hPq hSq))
                    clear hRq hUq hPq hSq
                    go_wp2_with fail
                    go_roundw
                    case rel => exact ⟨m + 1, b, lim, _, _, dq, by first | rfl | (congr 1 <;> omega), by first | rfl | (congr 1 <;> omega), by first | rfl | (congr 1 <;> omega), rfl, rfl, by omega, SQ.out⟩
                    case measure => simp [intOf]; omega
                  · go_wp2_with fail
                    refine (HI.out.2 (m + 1) b lim dp wp _ _ _ (by omega) (by omega) (by omega) (by omega) (by omega) (by omega) (by omega) SP.out.2.2.belowR SP.out.1).mono ?_
                    rintro e wq ⟨dq, rfl, hRq, hUq, hPq, hSq⟩
                    have SQ := Lib.hid (Qs.mk hRq (SP.out.2.1.trans hUq) (SJ.out.q.right SJ.out.r.size (by omega) SP.out.2.2 hPq hSq))
                    clear hRq hUq hPq hSq
                    go_wp2_with fail
                    go_roundw
                    case rel => exact ⟨a, m, lim, _, _, dq, by first | rfl | (congr 1 <;> omega), by first | rfl | (congr 1 <;> omega), by first | rfl | (congr 1 <;> omega), rfl, rfl, by omega, SQ.out⟩
                    case measure => simp [intOf]; omega
                · cases hlv : ltE di[a - 1]! di[(b - 1 - (p - a))]! with
                  | true =>
                    have HV := Lib.hid hlv
                    clear hlv
                    go_wp2_with fail
                    refine (less_at SJ.out.r (a - 1) (b - 1 - (p - a)) HV.out (by omega) (by omega) (by omega) (by omega)).mono ?_
                    rintro e wl ⟨rfl, hRl, hUl⟩
                    have SL := Lib.hid (SJ.out.still hRl hUl)
                    clear hRl hUl
                    go_wp2_with fail
                    refine (part_at SL.out.r hN a b (b - 1 - (p - a)) (by omega) (by omega) (by omega) (by omega) (by omega) (by omega)).mono ?_
                    rintro e wp ⟨m, fl, dp, rfl, hRp, hUp, hPt⟩
                    have hm1 := hPt.am
                    have hm2 := hPt.mb
                    have SP := Lib.hid (And.intro hRp (And.intro (SL.out.u.trans hUp) hPt))
                    clear hRp hUp hPt
                    by_cases hlr : m - a < b - m
                    · go_wp2_with fail
                      refine (HI.out.2 a m lim dp wp _ _ _ (by omega) (by omega) (by omega) (by omega) (by omega) (by omega) (by omega) (SP.out.2.2.belowL SL.out.r.size (by omega) SL.out.q.below) SP.out.1).mono ?_
                      rintro e wq ⟨dq, rfl, hRq, hUq, hPq, hSq⟩
                      have SQ := Lib.hid (Qs.mk hRq (SP.out.2.1.trans hUq) (SL.out.q.left SL.out.r.size (by omega) SP.out.2.2 hPq hSq))
                      clear hRq hUq hPq hSq
                      go_wp2_with fail
                      go_roundw
                      case rel => exact ⟨m + 1, b, lim, _, _, dq, by first | rfl | (congr 1 <;> omega), by first | rfl | (congr 1 <;> omega), by first | rfl | (congr 1 <;> omega), rfl, rfl, by omega, SQ.out⟩
                      case measure => simp [intOf]; omega
                    · go_wp2_with fail
                      refine (HI.out.2 (m + 1) b lim dp wp _ _ _ (by omega) (by omega) (by omega) (by omega) (by omega) (by omega) (by omega) SP.out.2.2.belowR SP.out.1).mono ?_
                      rintro e wq ⟨dq, rfl, hRq, hUq, hPq, hSq⟩
                      have SQ := Lib.hid (Qs.mk hRq (SP.out.2.1.trans hUq) (SL.out.q.right SL.out.r.size (by omega) SP.out.2.2 hPq hSq))
                      clear hRq hUq hPq hSq
                      go_wp2_with fail
                      go_roundw
                      case rel => exact ⟨a, m, lim, _, _, dq, by first | rfl | (congr 1 <;> omega), by first | rfl | (congr 1 <;> omega), by first | rfl | (congr 1 <;> omega), rfl, rfl, by omega, SQ.out⟩
                      case measure => simp [intOf]; omega
                  | false =>
                    have HV := Lib.hid hlv
                    clear hlv
                    go_wp2_with fail
                    refine (less_at SJ.out.r (a - 1) (b - 1 - (p - a)) HV.out (by omega) (by omega) (by omega) (by omega)).mono ?_
                    rintro e wl ⟨rfl, hRl, hUl⟩
                    have SL := Lib.hid (SJ.out.still hRl hUl)
                    clear hRl hUl
                    go_wp2_with fail
                    refine (peq_at SL.out.r hN a b (b - 1 - (p - a)) (by omega) (by omega) (by omega) (by omega) (by omega) (by omega)).mono ?_
                    rintro e wp ⟨m, dp, rfl, hRp, hUp, hEq⟩
                    have hm1 := hEq.am
                    have hm2 := hEq.mb
                    have SQ := Lib.hid (Qs.mk hRp (SL.out.u.trans hUp) (SL.out.q.equal SL.out.r.size (by omega) hEq (by omega) HV.out))
                    clear hRp hUp hEq
                    go_wp2_with fail
                    go_roundw
                    case rel => exact ⟨m, b, lim, _, _, dp, by first | rfl | (congr 1 <;> omega), by first | rfl | (congr 1 <;> omega), by first | rfl | (congr 1 <;> omega), rfl, rfl, by omega, SQ.out⟩
                    case measure => simp [intOf]; omega
            | false =>
              by_cases ha0 : a = 0
              · go_wp2_with fail
                refine (part_at SR.out.r hN a b (b - 1 - (p - a)) (by omega) (by omega) (by omega) (by omega) (by omega) (by omega)).mono ?_
                rintro e wp ⟨m, fl, dp, rfl, hRp, hUp, hPt⟩
                have hm1 := hPt.am
                have hm2 := hPt.mb
                have SP := Lib.hid (And.intro hRp (And.intro (SR.out.u.trans hUp) hPt))
                clear hRp hUp hPt
                by_cases hlr : m - a < b - m
                · go_wp2_with fail
                  refine (HI.out.2 a m lim dp wp _ _ _ (by omega) (by omega) (by omega) (by omega) (by omega) (by omega) (by omega) (SP.out.2.2.belowL SR.out.r.size (by omega) SR.out.q.below) SP.out.1).mono ?_
                  rintro e wq ⟨dq, rfl, hRq, hUq, hPq, hSq⟩
                  have SQ := Lib.hid (Qs.mk hRq (SP.out.2.1.trans hUq) (SR.out.q.left SR.out.r.size (by omega) SP.out.2.2 hPq hSq))
                  clear hRq hUq hPq hSq
                  go_wp2_with fail
                  go_roundw
                  case rel => exact ⟨m + 1, b, lim, _, _, dq, by first | rfl | (congr 1 <;> omega), by first | rfl | (congr 1 <;> omega), by first | rfl | (congr 1 <;> omega), rfl, rfl, by omega, SQ.out⟩
                  case measure => simp [intOf]; omega
                · go_wp2_with fail
                  refine (HI.out.2 (m + 1) b lim dp wp _ _ _ (by omega) (by omega) (by omega) (by omega) (by omega) (by omega) (by omega) SP.out.2.2.belowR SP.out.1).mono ?_
                  rintro e wq ⟨dq, rfl, hRq, hUq, hPq, hSq⟩
                  have SQ := Lib.hid (Qs.mk hRq (SP.out.2.1.trans hUq) (SR.out.q.right SR.out.r.size (by omega) SP.out.2.2 hPq hSq))
                  clear hRq hUq hPq hSq
                  go_wp2_with fail
                  go_roundw
                  case rel => exact ⟨a, m, lim, _, _, dq, by first | rfl | (congr 1 <;> omega), by first | rfl | (congr 1 <;> omega), by first | rfl | (congr 1 <;> omega), rfl, rfl, by omega, SQ.out⟩
                  case measure => simp [intOf]; omega
              · cases hlv : ltE dr[a - 1]! dr[(b - 1 - (p - a))]! with
                | true =>
                  have HV := Lib.hid hlv
                  clear hlv
                  go_wp2_with fail
                  refine (less_at SR.out.r (a - 1) (b - 1 - (p - a)) HV.out (by omega) (by omega) (by omega) (by omega)).mono ?_
                  rintro e wl ⟨rfl, hRl, hUl⟩
                  have SL := Lib.hid (SR.out.still hRl hUl)
                  clear hRl hUl
                  go_wp2_with fail
                  refine (part_at SL.out.r hN a b (b - 1 - (p - a)) (by omega) (by omega) (by omega) (by omega) (by omega) (by omega)).mono ?_
                  rintro e wp ⟨m, fl, dp, rfl, hRp, hUp, hPt⟩
                  have hm1 := hPt.am
                  have hm2 := hPt.mb
                  have SP := Lib.hid (And.intro hRp (And.intro (SL.out.u.trans hUp) hPt))
                  clear hRp hUp hPt
                  by_cases hlr : m - a < b - m
                  · go_wp2_with fail
                    refine (HI.out.2 a m lim dp wp _ _ _ (by omega) (by omega) (by omega) (by omega) (by omega) (by omega) (by omega) (SP.out.2.2.belowL SL.out.r.size (by omega) SL.out.q.below) SP.out.1).mono ?_
                    rintro e wq ⟨dq, rfl, hRq, hUq, hPq, hSq⟩
                    have SQ := Lib.hid (Qs.mk hRq (SP.out.2.1.trans hUq) (SL.out.q.left SL.out.r.size (by omega) SP.out.2.2 hPq hSq))
                    clear hRq hUq hPq hSq
                    go_wp2_with fail
                    go_roundw
                    case rel => exact ⟨m + 1, b, lim, _, _, dq, by first | rfl | (congr 1 <;> omega), by first | rfl | (congr 1 <;> omega), by first | rfl | (congr 1 <;> omega), rfl, rfl, by omega, SQ.out⟩
                    case measure => simp [intOf]; omega
                  · go_wp2_with fail
                    refine (HI.out.2 (m + 1) b lim dp wp _ _ _ (by omega) (by omega) (by omega) (by omega) (by omega) (by omega) (by omega) SP.out.2.2.belowR SP.out.1).mono ?_
                    rintro e wq ⟨dq, rfl, hRq, hUq, hPq, hSq⟩
                    have SQ := Lib.hid (Qs.mk hRq (SP.out.2.1.trans hUq) (SL.out.q.right SL.out.r.size (by omega) SP.out.2.2 hPq hSq))
                    clear hRq hUq hPq hSq
                    go_wp2_with fail
                    go_roundw
                    case rel => exact ⟨a, m, lim, _, _, dq, by first | rfl | (congr 1 <;> omega), by first | rfl | (congr 1 <;> omega), by first | rfl | (congr 1 <;> omega), rfl, rfl, by omega, SQ.out⟩
                    case measure => simp [intOf]; omega
                | false =>
                  have HV := Lib.hid hlv
                  clear hlv
                  go_wp2_with fail
                  refine (less_at SR.out.r (a - 1) (b - 1 - (p - a)) HV.out (by omega) (by omega) (by omega) (by omega)).mono ?_
                  rintro e wl ⟨rfl, hRl, hUl⟩
                  have SL := Lib.hid (SR.out.still hRl hUl)
                  clear hRl hUl
                  go_wp2_with fail
                  refine (peq_at SL.out.r hN a b (b - 1 - (p - a)) (by omega) (by omega) (by omega) (by omega) (by omega) (by omega)).mono ?_
                  rintro e wp ⟨m, dp, rfl, hRp, hUp, hEq⟩
                  have hm1 := hEq.am
                  have hm2 := hEq.mb
                  have SQ := Lib.hid (Qs.mk hRp (SL.out.u.trans hUp) (SL.out.q.equal SL.out.r.size (by omega) hEq (by omega) HV.out))
                  clear hRp hUp hEq
                  go_wp2_with fail
                  go_roundw
                  case rel => exact ⟨m, b, lim, _, _, dp, by first | rfl | (congr 1 <;> omega), by first | rfl | (congr 1 <;> omega), by first | rfl | (congr 1 <;> omega), rfl, rfl, by omega, SQ.out⟩
                  case measure => simp [intOf]; omega
          · have hh2' : ¬ (hint : Int) = 2 := by omega
            cases pt with
            | true =>
              by_cases hh1 : hint = 1
              · subst hh1
                go_wp2_with fail
                refine (pin_at SV.out.r hN a b (by omega) (by omega) rfl rfl).mono ?_
                rintro e wi ⟨fi, rfl, hRi, hUi, hfi⟩
                have hpi := partialInsertionSort_holds swoE dk a b (by omega) (by rw [SV.out.r.size]; omega) SV.out.q.below
                obtain ⟨di, hdi⟩ : ∃ di, (partialInsertionSort ltE dk a b).1 = di := ⟨_, rfl⟩
                rw [hfi, hdi] at hpi
                rw [hdi] at hRi
                have SI := Lib.hid (And.intro (SV.out.turn hb0 hRi hUi hpi.1) (And.intro (SV.out) (And.intro hRi (And.intro hUi hpi))))
                clear hRi hUi hfi hpi hdi
                cases fi with
                | true =>
                  go_wp2_with fail
                  go_end0
                  exact SI.out.2.1.stop hb0 SI.out.2.2.1 SI.out.2.2.2.1 SI.out.2.2.2.2.1 (SI.out.2.2.2.2.2 (by trivial))
                | false =>
                  have SJ := Lib.hid SI.out.1
                  clear SI
                  by_cases ha0 : a = 0
                  · go_wp2_with fail
                    refine (part_at SJ.out.r hN a b p (by omega) (by omega) (by omega) (by omega) (by omega) (by omega)).mono ?_
                    rintro e wp ⟨m, fl, dp, rfl, hRp, hUp, hPt⟩
                    have hm1 := hPt.am
                    have hm2 := hPt.mb
                    have SP := Lib.hid (And.intro hRp (And.intro (SJ.out.u.trans hUp) hPt))
                    clear hRp hUp hPt
                    by_cases hlr : m - a < b - m
                    · go_wp2_with fail
                      refine (HI.out.2 a m lim dp wp _ _ _ (by omega) (by omega) (by omega) (by omega) (by omega) (by omega) (by omega) (SP.out.2.2.belowL SJ.out.r.size (by omega) SJ.out.q.below) SP.out.1).mono ?_
                      rintro e wq ⟨dq, rfl, hRq, hUq, hPq, hSq⟩
                      have SQ := Lib.hid (Qs.mk hRq (SP.out.2.1.trans hUq) (SJ.out.q.left SJ.out.r.size (by omega) SP.out.2.2 hPq hSq))
                      clear hRq hUq hPq hSq
                      go_wp2_with fail
                      go_roundw
                      case rel => exact ⟨m + 1, b, lim, _, _, dq, by first | rfl | (congr 1 <;> omega), by first | rfl | (congr 1 <;> omega), by first | rfl | (congr 1 <;> omega), rfl, rfl, by omega, SQ.out⟩
                      case measure => simp [intOf]; omega
                    · go_wp2_with fail
                      refine (HI.out.2 (m + 1) b lim dp wp _ _ _ (by omega) (by omega) (by omega) (by omega) (by omega) (by omega) (by omega) SP.out.2.2.belowR SP.out.1).mono ?_
                      rintro e wq ⟨dq, rfl, hRq, hUq, hPq, hSq⟩
                      have SQ := Lib.hid (Qs.mk hRq (SP.out.2.1.trans hUq) (SJ.out.q.right SJ.out.r.size (by omega) SP.out.2.2 hPq hSq))
                      clear hRq hUq hPq hSq
                      go_wp2_with fail
                      go_roundw
                      case rel => exact ⟨a, m, lim, _, _, dq, by first | rfl | (congr 1 <;> omega), by first | rfl | (congr 1 <;> omega), by first | rfl | (congr 1 <;> omega), rfl, rfl, by omega, SQ.out⟩
                      case measure => simp [intOf]; omega
                  · cases hlv : ltE di[a - 1]! di[p]! with
                    | true =>
                      have HV := Lib.hid hlv
                      clear hlv
                      go_wp2_with fail
                      refine (less_at SJ.out.r (a - 1) p HV.out (by omega) (by omega) (by omega) (by omega)).mono ?_
                      rintro e wl ⟨rfl, hRl, hUl⟩
                      have SL := Lib.hid (SJ.out.still hRl hUl)
                      clear hRl hUl
                      go_wp2_with fail
                      refine (part_at SL.out.r hN a b p (by omega) (by omega) (by omega) (by omega) (by omega) (by omega)).mono ?_
                      rintro e wp ⟨m, fl, dp, rfl, hRp, hUp, hPt⟩
                      have hm1 := hPt.am
                      have hm2 := hPt.mb
                      have SP := Lib.hid (And.intro hRp (And.intro (SL.out.u.trans hUp) hPt))
                      clear hRp hUp hPt
                      by_cases hlr : m - a < b - m
                      · go_wp2_with fail
                        refine (HI.out.2 a m lim dp wp _ _ _ (by omega) (by omega) (by omega) (by omega) (by omega) (by omega) (by omega) (SP.out.2.2.belowL SL.out.r.size (by omega) SL.out.q.below) SP.out.1).mono ?_
                        rintro e wq ⟨dq, rfl, hRq, hUq, hPq, hSq⟩
                        have SQ := Lib.hid (Qs.mk hRq (SP.out.2.1.trans hUq) (SL.out.q.left SL.out.r.size (by omega) SP.out.2.2 hPq hSq))
                        clear hRq hUq hPq hSq
                        go_wp2_with fail
                        go_roundw
                        case rel => exact ⟨m + 1, b, lim, _, _, dq, by first | rfl | (congr 1 <;> omega), by first | rfl | (congr 1 <;> omega), by first | rfl | (congr 1 <;> omega), rfl, rfl, by omega, SQ.out⟩
                        case measure => simp [intOf]; omega
                      · go_wp2_with fail
                        refine (HI.out.2 (m + 1) b lim dp wp _ _ _ (by omega) (by omega) (by omega) (by omega) (by omega) (by omega) (by omega) SP.out.2.2.belowR SP.out.1).mono ?_
                        rintro e wq ⟨dq, rfl, hRq, hUq, hPq, hSq⟩
                        have SQ := Lib.hid (Qs.mk hRq (SP.out.2.1.trans hUq) (SL.out.q.right SL.out.r.size (by omega) SP.out.2.2 hPq hSq))
                        clear hRq hUq hPq hSq
                        go_wp2_with fail
                        go_roundw
                        case rel => exact ⟨a, m, lim, _, _, dq, by first | rfl | (congr 1 <;> omega), by first | rfl | (congr 1 <;> omega), by first | rfl | (congr 1 <;> omega), rfl, rfl, by omega, SQ.out⟩
                        case measure => simp [intOf]; omega
                    | false =>
                      have HV := Lib.hid hlv
                      clear hlv
                      go_wp2_with fail
                      refine (less_at SJ.out.r (a - 1) p HV.out (by omega) (by omega) (by omega) (by omega)).mono ?_
                      rintro e wl ⟨rfl, hRl, hUl⟩
                      have SL := Lib.hid (SJ.out.still hRl hUl)
                      clear hRl hUl
                      go_wp2_with fail
                      refine (peq_at SL.out.r hN a b p (by omega) (by omega) (by omega) (by omega) (by omega) (by omega)).mono ?_
                      rintro e wp ⟨m, dp, rfl, hRp, hUp, hEq⟩
                      have hm1 := hEq.am
                      have hm2 := hEq.mb
                      have SQ := Lib.hid (Qs.mk hRp (SL.out.u.trans hUp) (SL.out.q.equal SL.out.r.size (by omega) hEq (by omega) HV.out))
                      clear hRp hUp hEq
                      go_wp2_with fail
                      go_roundw
                      case rel => exact ⟨m, b, lim, _, _, dp, by first | rfl | (congr 1 <;> omega), by first | rfl | (congr 1 <;> omega), by first | rfl | (congr 1 <;> omega), rfl, rfl, by omega, SQ.out⟩
                      case measure => simp [intOf]; omega
              · have hh1' : ¬ (hint : Int) = 1 := by omega
                by_cases ha0 : a = 0
                · go_wp2_with fail
                  refine (part_at SV.out.r hN a b p (by omega) (by omega) (by omega) (by omega) (by omega) (by omega)).mono ?_
                  rintro e wp ⟨m, fl, dp, rfl, hRp, hUp, hPt⟩
                  have hm1 := hPt.am
                  have hm2 := hPt.mb
                  have SP := Lib.hid (And.intro hRp (And.intro (SV.out.u.trans hUp) hPt))
                  clear hRp hUp hPt
                  by_cases hlr : m - a < b - m
                  · go_wp2_with fail
                    refine (HI.out.2 a m lim dp wp _ _ _ (by omega) (by omega) (by omega) (by omega) (by omega) (by omega) (by omega) (SP.out.2.2.belowL SV.out.r.size (by omega) SV.out.q.below) SP.out.1).mono ?_
                    rintro e wq ⟨dq, rfl, hRq, hUq, hPq, hSq⟩
                    have SQ := Lib.hid (Qs.mk hRq (SP.out.2.1.trans hUq) (SV.out.q.left SV.out.r.size (by omega) SP.out.2.2 hPq hSq))
                    clear hRq hUq hPq hSq
                    go_wp2_with fail
                    go_roundw
                    case rel => exact ⟨m + 1, b, lim, _, _, dq, by first | rfl | (congr 1 <;> omega), by first | rfl | (congr 1 <;> omega), by first | rfl | (congr 1 <;> omega), rfl, rfl, by omega, SQ.out⟩
                    case measure => simp [intOf]; omega
                  · go_wp2_with fail
                    refine (HI.out.2 (m + 1) b lim dp wp _ _ _ (by omega) (by omega) (by omega) (by omega) (by omega) (by omega) (by omega) SP.out.2.2.belowR SP.out.1).mono ?_
                    rintro e wq ⟨dq, rfl, hRq, hUq, hPq, hSq⟩
                    have SQ := Lib.hid (Qs.mk hRq (SP.out.2.1.trans hUq) (SV.out.q.right SV.out.r.size (by omega) SP.out.2.2 hPq hSq))
                    clear hRq hUq hPq hSq
                    go_wp2_with fail
                    go_roundw
                    case rel => exact ⟨a, m, lim, _, _, dq, by first | rfl | (congr 1 <;> omega), by first | rfl | (congr 1 <;> omega), by first | rfl | (congr 1 <;> omega), rfl, rfl, by omega, SQ.out⟩
                    case measure => simp [intOf]; omega
                · cases hlv : ltE dk[a - 1]! dk[p]! with
                  | true =>
                    have HV := Lib.hid hlv
                    clear hlv
                    go_wp2_with fail
                    refine (less_at SV.out.r (a - 1) p HV.out (by omega) (by omega) (by omega) (by omega)).mono ?_
                    rintro e wl ⟨rfl, hRl, hUl⟩
                    have SL := Lib.hid (SV.out.still hRl hUl)
                    clear hRl hUl
                    go_wp2_with fail
                    refine (part_at SL.out.r hN a b p (by omega) (by omega) (by omega) (by omega) (by omega) (by omega)).mono ?_
                    rintro e wp ⟨m, fl, dp, rfl, hRp, hUp, hPt⟩
                    have hm1 := hPt.am
                    have hm2 := hPt.mb
                    have SP := Lib.hid (And.intro hRp (And.intro (SL.out.u.trans hUp) hPt))
                    clear hRp hUp hPt
                    by_cases hlr : m - a < b - m
                    · go_wp2_with fail
                      refine (HI.out.2 a m lim dp wp _ _ _ (by omega) (by omega) (by omega) (by omega) (by omega) (by omega) (by omega) (SP.out.2.2.belowL SL.out.r.size (by omega) SL.out.q.below) SP.out.1).mono ?_
                      rintro e wq ⟨dq, rfl, hRq, hUq, hPq, hSq⟩
                      have SQ := Lib.hid (Qs.mk hRq (SP.out.2.1.trans hUq) (SL.out.q.left SL.out.r.size (by omega) SP.out.2.2 hPq hSq))
                      clear hRq hUq hPq hSq
                      go_wp2_with fail
                      go_roundw
                      case rel => exact ⟨m + 1, b, lim, _, _, dq, by first | rfl | (congr 1 <;> omega), by first | rfl | (congr 1 <;> omega), by first | rfl | (congr 1 <;> omega), rfl, rfl, by omega, SQ.out⟩
                      case measure => simp [intOf]; omega
                    · go_wp2_with fail
                      refine (HI.out.2 (m + 1) b lim dp wp _ _ _ (by omega) (by omega) (by omega) (by omega) (by omega) (by omega) (by omega) SP.out.2.2.belowR SP.out.1).mono ?_
                      rintro e wq ⟨dq, rfl, hRq, hUq, hPq, hSq⟩
                      have SQ := Lib.hid (Qs.mk hRq (SP.out.2.1.trans hUq) (SL.out.q.right SL.out.r.size (by omega) SP.out.2.2 hPq hSq))
                      clear hRq hUq hPq hSq
                      go_wp2_with fail
                      go_roundw
                      case rel => exact ⟨a, m, lim, _, _, dq, by first | rfl | (congr 1 <;> omega), by first | rfl | (congr 1 <;> omega), by first | rfl | (congr 1 <;> omega), rfl, rfl, by omega, SQ.out⟩
                      case measure => simp [intOf]; omega
                  | false =>
                    have HV := Lib.hid hlv
                    clear hlv
                    go_wp2_with fail
                    refine (less_at SV.out.r (a - 1) p HV.out (by omega) (by omega) (by omega) (by omega)).mono ?_
                    rintro e wl ⟨rfl, hRl, hUl⟩
                    have SL := Lib.hid (SV.out.still hRl hUl)
                    clear hRl hUl
                    go_wp2_with fail
                    refine (peq_at SL.out.r hN a b p (by omega) (by omega) (by omega) (by omega) (by omega) (by omega)).mono ?_
                    rintro e wp ⟨m, dp, rfl, hRp, hUp, hEq⟩
                    have hm1 := hEq.am
                    have hm2 := hEq.mb
                    have SQ := Lib.hid (Qs.mk hRp (SL.out.u.trans hUp) (SL.out.q.equal SL.out.r.size (by omega) hEq (by omega) HV.out))
                    clear hRp hUp hEq
                    go_wp2_with fail
                    go_roundw
                    case rel => exact ⟨m, b, lim, _, _, dp, by first | rfl | (congr 1 <;> omega), by first | rfl | (congr 1 <;> omega), by first | rfl | (congr 1 <;> omega), rfl, rfl, by omega, SQ.out⟩
                    case measure => simp [intOf]; omega
            | false =>
              by_cases ha0 : a = 0
              · go_wp2_with fail
                refine (part_at SV.out.r hN a b p (by omega) (by omega) (by omega) (by omega) (by omega) (by omega)).mono ?_
                rintro e wp ⟨m, fl, dp, rfl, hRp, hUp, hPt⟩
                have hm1 := hPt.am
                have hm2 := hPt.mb
                have SP := Lib.hid (And.intro hRp (And.intro (SV.out.u.trans hUp) hPt))
                clear hRp hUp hPt
                by_cases hlr : m - a < b - m
                · go_wp2_with fail
                  refine (HI.out.2 a m lim dp wp _ _ _ (by omega) (by omega) (by omega) (by omega) (by omega) (by omega) (by omega) (SP.out.2.2.belowL SV.out.r.size (by omega) SV.out.q.below) SP.out.1).mono ?_
                  rintro e wq ⟨dq, rfl, hRq, hUq, hPq, hSq⟩
                  have SQ := Lib.hid (Qs.mk hRq (SP.out.2.1.trans hUq) (SV.out.q.left SV.out.r.size (by omega) SP.out.2.2 hPq hSq))
                  clear hRq hUq hPq hSq
                  go_wp2_with fail
                  go_roundw
                  case rel => exact ⟨m + 1, b, lim, _, _, dq, by first | rfl | (congr 1 <;> omega), by first | rfl | (congr 1 <;> omega), by first | rfl | (congr 1 <;> omega), rfl, rfl, by omega, SQ.out⟩
                  case measure => simp [intOf]; omega
                · go_wp2_with fail
                  refine (HI.out.2 (m + 1) b lim dp wp _ _ _ (by omega) (by omega) (by omega) (by omega) (by omega) (by omega) (by omega) SP.out.2.2.belowR SP.out.1).mono ?_
                  rintro e wq ⟨dq, rfl, hRq, hUq, hPq, hSq⟩
                  have SQ := Lib.hid (Qs.mk hRq (SP.out.2.1.trans hUq) (SV.out.q.right SV.out.r.size (by omega) SP.out.2.2 hPq hSq))
                  clear hRq hUq hPq hSq
                  go_wp2_with fail
                  go_roundw
                  case rel => exact ⟨a, m, lim, _, _, dq, by first | rfl | (congr 1 <;> omega), by first | rfl | (congr 1 <;> omega), by first | rfl | (congr 1 <;> omega), rfl, rfl, by omega, SQ.out⟩
                  case measure => simp [intOf]; omega
              · cases hlv : ltE dk[a - 1]! dk[p]! with
                | true =>
                  have HV := Lib.hid hlv
                  clear hlv
                  go_wp2_with fail
                  refine (less_at SV.out.r (a - 1) p HV.out (by omega) (by omega) (by omega) (by omega)).mono ?_
                  rintro e wl ⟨rfl, hRl, hUl⟩
                  have SL := Lib.hid (SV.out.still hRl hUl)
                  clear hRl hUl
                  go_wp2_with fail
                  refine (part_at SL.out.r hN a b p (by omega) (by omega) (by omega) (by omega) (by omega) (by omega)).mono ?_
                  rintro e wp ⟨m, fl, dp, rfl, hRp, hUp, hPt⟩
                  have hm1 := hPt.am
                  have hm2 := hPt.mb
                  have SP := Lib.hid (And.intro hRp (And.intro (SL.out.u.trans hUp) hPt))
                  clear hRp hUp hPt
                  by_cases hlr : m - a < b - m
                  · go_wp2_with fail
                    refine (HI.out.2 a m lim dp wp _ _ _ (by omega) (by omega) (by omega) (by omega) (by omega) (by omega) (by omega) (SP.out.2.2.belowL SL.out.r.size (by omega) SL.out.q.below) SP.out.1).mono ?_
                    rintro e wq ⟨dq, rfl, hRq, hUq, hPq, hSq⟩
                    have SQ := Lib.hid (Qs.mk hRq (SP.out.2.1.trans hUq) (SL.out.q.left SL.out.r.size (by omega) SP.out.2.2 hPq hSq))
                    clear hRq hUq hPq hSq
                    go_wp2_with fail
                    go_roundw
                    case rel => exact ⟨m + 1, b, lim, _, _, dq, by first | rfl | (congr 1 <;> omega), by first | rfl | (congr 1 <;> omega), by first | rfl | (congr 1 <;> omega), rfl, rfl, by omega, SQ.out⟩
                    case measure => simp [intOf]; omega
                  · go_wp2_with fail
                    refine (HI.out.2 (m + 1) b lim dp wp _ _ _ (by omega) (by omega) (by omega) (by omega) (by omega) (by omega) (by omega) SP.out.2.2.belowR SP.out.1).mono ?_
                    rintro e wq ⟨dq, rfl, hRq, hUq, hPq, hSq⟩
                    have SQ := Lib.hid (Qs.mk hRq (SP.out.2.1.trans hUq) (SL.out.q.right SL.out.r.size (by omega) SP.out.2.2 hPq hSq))
                    clear hRq hUq hPq hSq
                    go_wp2_with fail
                    go_roundw
                    case rel => exact ⟨a, m, lim, _, _, dq, by first | rfl | (congr 1 <;> omega), by first | rfl | (congr 1 <;> omega), by first | rfl | (congr 1 <;> omega), rfl, rfl, by omega, SQ.out⟩
                    case measure => simp [intOf]; omega
                | false =>
                  have HV := Lib.hid hlv
                  clear hlv
                  go_wp2_with fail
                  refine (less_at SV.out.r (a - 1) p HV.out (by omega) (by omega) (by omega) (by omega)).mono ?_
                  rintro e wl ⟨rfl, hRl, hUl⟩
                  have SL := Lib.hid (SV.out.still hRl hUl)
                  clear hRl hUl
                  go_wp2_with fail
                  refine (peq_at SL.out.r hN a b p (by omega) (by omega) (by omega) (by omega) (by omega) (by omega)).mono ?_
                  rintro e wp ⟨m, dp, rfl, hRp, hUp, hEq⟩
                  have hm1 := hEq.am
                  have hm2 := hEq.mb
                  have SQ := Lib.hid (Qs.mk hRp (SL.out.u.trans hUp) (SL.out.q.equal SL.out.r.size (by omega) hEq (by omega) HV.out))
                  clear hRp hUp hEq
                  go_wp2_with fail
                  go_roundw
                  case rel => exact ⟨m, b, lim, _, _, dp, by first | rfl | (congr 1 <;> omega), by first | rfl | (congr 1 <;> omega), by first | rfl | (congr 1 <;> omega), rfl, rfl, by omega, SQ.out⟩
                  case measure => simp [intOf]; omega
        | false =>
          go_wp2_with fail
          refine (brk_any HI.out.1 S0.out.r hN a b (by omega) (by omega)).mono ?_
          rintro e wb ⟨db, rfl, hRb, hUb, hPb⟩
          have SB := Lib.hid (S0.out.turn hb0 hRb hUb hPb)
          clear hRb hUb hPb
          go_wp2_with fail
          refine (piv_any SB.out.r hN a b (by omega) (by omega)).mono ?_
          rintro e wv ⟨p, hint, rfl, hp1, hp2, hh, hRv, hUv⟩
          have SV := Lib.hid (SB.out.still hRv hUv)
          clear hRv hUv
          by_cases hh2 : hint = 2
          · subst hh2
            go_wp2_with fail
            refine (rev_any SV.out.r hN a b (by omega) (by omega)).mono ?_
            rintro e wt ⟨rfl, hRt, hUt⟩
            have hpr := reverseRange_holds db a b (by omega) (by rw [SV.out.r.size]; omega)
            obtain ⟨dr, hdr⟩ : ∃ dr, reverseRange db a b = dr := ⟨_, rfl⟩
            rw [hdr] at hRt hpr
            have SR := Lib.hid (SV.out.turn hb0 hRt hUt hpr)
            clear hRt hUt hpr hdr
            by_cases ha0 : a = 0
            · go_wp2_with fail
              refine (part_at SR.out.r hN a b (b - 1 - (p - a)) (by omega) (by omega) (by omega) (by omega) (by omega) (by omega)).mono ?_
              rintro e wp ⟨m, fl, dp, rfl, hRp, hUp, hPt⟩
              have hm1 := hPt.am
              have hm2 := hPt.mb
              have SP := Lib.hid (And.intro hRp (And.intro (SR.out.u.trans hUp) hPt))
              clear hRp hUp hPt
              by_cases hlr : m - a < b - m
              · go_wp2_with fail
                refine (HI.out.2 a m (lim - 1) dp wp _ _ _ (by omega) (by omega) (by omega) (by omega) (by omega) (by omega) (by omega) (SP.out.2.2.belowL SR.out.r.size (by omega) SR.out.q.below) SP.out.1).mono ?_
                rintro e wq ⟨dq, rfl, hRq, hUq, hPq, hSq⟩
                have SQ := Lib.hid (Qs.mk hRq (SP.out.2.1.trans hUq) (SR.out.q.left SR.out.r.size (by omega) SP.out.2.2 hPq hSq))
                clear hRq hUq hPq hSq
                go_wp2_with fail
                go_roundw
                case rel => exact ⟨m + 1, b, (lim - 1), _, _, dq, by first | rfl | (congr 1 <;> omega), by first | rfl | (congr 1 <;> omega), by first | rfl | (congr 1 <;> omega), rfl, rfl, by omega, SQ.out⟩
                case measure => simp [intOf]; omega
              · go_wp2_with fail
                refine (HI.out.2 (m + 1) b (lim - 1) dp wp _ _ _ (by omega) (by omega) (by omega) (by omega) (by omega) (by omega) (by omega) SP.out.2.2.belowR SP.out.1).mono ?_
                rintro e wq ⟨dq, rfl, hRq, hUq, hPq, hSq⟩
                have SQ := Lib.hid (Qs.mk hRq (SP.out.2.1.trans hUq) (SR.out.q.right SR.out.r.size (by omega) SP.out.2.2 hPq hSq))
                clear hRq hUq hPq hSq
                go_wp2_with fail
                go_roundw
                case rel => exact ⟨a, m, (lim - 1), _, _, dq, by first | rfl | (congr 1 <;> omega), by first | rfl | (congr 1 <;> omega), by first | rfl | (congr 1 <;> omega), rfl, rfl, by omega, SQ.out⟩
                case measure => simp [intOf]; omega
            · cases hlv : ltE dr[a - 1]! dr[(b - 1 - (p - a))]! with
              | true =>
                have HV := Lib.hid hlv
                clear hlv
                go_wp2_with fail
                refine (less_at SR.out.r (a - 1) (b - 1 - (p - a)) HV.out (by omega) (by omega) (by omega) (by omega)).mono ?_
                rintro e wl ⟨rfl, hRl, hUl⟩
                have SL := Lib.hid (SR.out.still hRl hUl)
                clear hRl hUl
                go_wp2_with fail
                refine (part_at SL.out.r hN a b (b - 1 - (p - a)) (by omega) (by omega) (by omega) (by omega) (by omega) (by omega)).mono ?_
                rintro e wp ⟨m, fl, dp, rfl, hRp, hUp, hPt⟩
                have hm1 := hPt.am
                have hm2 := hPt.mb
                have SP := Lib.hid (And.intro hRp (And.intro (SL.out.u.trans hUp) hPt))
                clear hRp hUp hPt
                by_cases hlr : m - a < b - m
                · go_wp2_with fail
                  refine (HI.out.2 a m (lim - 1) dp wp _ _ _ (by omega) (by omega) (by omega) (by omega) (by omega) (by omega) (by omega) (SP.out.2.2.belowL SL.out.r.size (by omega) SL.out.q.below) SP.out.1).mono ?_
                  rintro e wq ⟨dq, rfl, hRq, hUq, hPq, hSq⟩
                  have SQ := Lib.hid (Qs.mk hRq (SP.out.2.1.trans hUq) (SL.out.q.left SL.out.r.size (by omega) SP.out.2.2 hPq hSq))
                  clear hRq hUq hPq hSq
                  go_wp2_with fail
                  go_roundw
                  case rel => exact ⟨m + 1, b, (lim - 1), _, _, dq, by first | rfl | (congr 1 <;> omega), by first | rfl | (congr 1 <;> omega), by first | rfl | (congr 1 <;> omega), rfl, rfl, by omega, SQ.out⟩
                  case measure => simp [intOf]; omega
                · go_wp2_with fail
                  refine (HI.out.2 (m + 1) b (lim - 1) dp wp _ _ _ (by omega) (by omega) (by omega) (by omega) (by omega) (by omega) (by omega) SP.out.2.2.belowR SP.out.1).mono ?_
                  rintro e wq ⟨dq, rfl, hRq, hUq, hPq, hSq⟩
                  have SQ := Lib.hid (Qs.mk hRq (SP.out.2.1.trans hUq) (SL.out.q.right SL.out.r.size (by omega) SP.out.2.2 hPq hSq))
                  clear hRq hUq hPq hSq
                  go_wp2_with fail
                  go_roundw
                  case rel => exact ⟨a, m, (lim - 1), _, _, dq, by first | rfl | (congr 1 <;> omega), by first | rfl | (congr 1 <;> omega), by first | rfl | (congr 1 <;> omega), rfl, rfl, by omega, SQ.out⟩
                  case measure => simp [intOf]; omega
              | false =>
                have HV := Lib.hid hlv
                clear hlv
                go_wp2_with fail
                refine (less_at SR.out.r (a - 1) (b - 1 - (p - a)) HV.out (by omega) (by omega) (by omega) (by omega)).mono ?_
                rintro e wl ⟨rfl, hRl, hUl⟩
                have SL := Lib.hid (SR.out.still hRl hUl)
                clear hRl hUl
                go_wp2_with fail
                refine (peq_at SL.out.r hN a b (b - 1 - (p - a)) (by omega) (by omega) (by omega) (by omega) (by omega) (by omega)).mono ?_
                rintro e wp ⟨m, dp, rfl, hRp, hUp, hEq⟩
                have hm1 := hEq.am
                have hm2 := hEq.mb
                have SQ := Lib.hid (Qs.mk hRp (SL.out.u.trans hUp) (SL.out.q.equal SL.out.r.size (by omega) hEq (by omega) HV.out))
                clear hRp hUp hEq
                go_wp2_with fail
                go_roundw
                case rel => exact ⟨m, b, (lim - 1), _, _, dp, by first | rfl | (congr 1 <;> omega), by first | rfl | (congr 1 <;> omega), by first | rfl | (congr 1 <;> omega), rfl, rfl, by omega, SQ.out⟩
                case measure => simp [intOf]; omega
          · have hh2' : ¬ (hint : Int) = 2 := by omega
            by_cases ha0 : a = 0
            · go_wp2_with fail
              refine (part_at SV.out.r hN a b p (by omega) (by omega) (by omega) (by omega) (by omega) (by omega)).mono ?_
              rintro e wp ⟨m, fl, dp, rfl, hRp, hUp, hPt⟩
              have hm1 := hPt.am
              have hm2 := hPt.mb
              have SP := Lib.hid (And.intro hRp (And.intro (SV.out.u.trans hUp) hPt))
              clear hRp hUp hPt
              by_cases hlr : m - a < b - m
              · go_wp2_with fail
                refine (HI.out.2 a m (lim - 1) dp wp _ _ _ (by omega) (by omega) (by omega) (by omega) (by omega) (by omega) (by omega) (SP.out.2.2.belowL SV.out.r.size (by omega) SV.out.q.below) SP.out.1).mono ?_
                rintro e wq ⟨dq, rfl, hRq, hUq, hPq, hSq⟩
                have SQ := Lib.hid (Qs.mk hRq (SP.out.2.1.trans hUq) (SV.out.q.left SV.out.r.size (by omega) SP.out.2.2 hPq hSq))
                clear hRq hUq hPq hSq
                go_wp2_with fail
                go_roundw
                case rel => exact ⟨m + 1, b, (lim - 1), _, _, dq, by first | rfl | (congr 1 <;> omega), by first | rfl | (congr 1 <;> omega), by first | rfl | (congr 1 <;> omega), rfl, rfl, by omega, SQ.out⟩
                case measure => simp [intOf]; omega
              · go_wp2_with fail
                refine (HI.out.2 (m + 1) b (lim - 1) dp wp _ _ _ (by omega) (by omega) (by omega) (by omega) (by omega) (by omega) (by omega) SP.out.2.2.belowR SP.out.1).mono ?_
                rintro e wq ⟨dq, rfl, hRq, hUq, hPq, hSq⟩
                have SQ := Lib.hid (Qs.mk hRq (SP.out.2.1.trans hUq) (SV.out.q.right SV.out.r.size (by omega) SP.out.2.2 hPq hSq))
                clear hRq hUq hPq hSq
                go_wp2_with fail
                go_roundw
                case rel => exact ⟨a, m, (lim - 1), _, _, dq, by first | rfl | (congr 1 <;> omega), by first | rfl | (congr 1 <;> omega), by first | rfl | (congr 1 <;> omega), rfl, rfl, by omega, SQ.out⟩
                case measure => simp [intOf]; omega
            · cases hlv : ltE db[a - 1]! db[p]! with
              | true =>
                have HV := Lib.hid hlv
                clear hlv
                go_wp2_with fail
                refine (less_at SV.out.r (a - 1) p HV.out (by omega) (by omega) (by omega) (by omega)).mono ?_
                rintro e wl ⟨rfl, hRl, hUl⟩
                have SL := Lib.hid (SV.out.still hRl hUl)
                clear hRl hUl
                go_wp2_with fail
                refine (part_at SL.out.r hN a b p (by omega) (by omega) (by omega) (by omega) (by omega) (by omega)).mono ?_
                rintro e wp ⟨m, fl, dp, rfl, hRp, hUp, hPt⟩
                have hm1 := hPt.am
                have hm2 := hPt.mb
                have SP := Lib.hid (And.intro hRp (And.intro (SL.out.u.trans hUp) hPt))
                clear hRp hUp hPt
                by_cases hlr : m - a < b - m
                · go_wp2_with fail
                  refine (HI.out.2 a m (lim - 1) dp wp _ _ _ (by omega) (by omega) (by omega) (by omega) (by omega) (by omega) (by omega) (SP.out.2.2.belowL SL.out.r.size (by omega) SL.out.q.below) SP.out.1).mono ?_
                  rintro e wq ⟨dq, rfl, hRq, hUq, hPq, hSq⟩
                  have SQ := Lib.hid (Qs.mk hRq (SP.out.2.1.trans hUq) (SL.out.q.left SL.out.r.size (by omega) SP.out.2.2 hPq hSq))
                  clear hRq hUq hPq hSq
                  go_wp2_with fail
                  go_roundw
                  case rel => exact ⟨m + 1, b, (lim - 1), _, _, dq, by first | rfl | (congr 1 <;> omega), by first | rfl | (congr 1 <;> omega), by first | rfl | (congr 1 <;> omega), rfl, rfl, by omega, SQ.out⟩
                  case measure => simp [intOf]; omega
                · go_wp2_with fail
                  refine (HI.out.2 (m + 1) b (lim - 1) dp wp _ _ _ (by omega) (by omega) (by omega) (by omega) (by omega) (by omega) (by omega) SP.out.2.2.belowR SP.out.1).mono ?_
                  rintro e wq ⟨dq, rfl, hRq, hUq, hPq, hSq⟩
                  have SQ := Lib.hid (Qs.mk hRq (SP.out.2.1.trans hUq) (SL.out.q.right SL.out.r.size (by omega) SP.out.2.2 hPq hSq))
                  clear hRq hUq hPq hSq
                  go_wp2_with fail
                  go_roundw
                  case rel => exact ⟨a, m, (lim - 1), _, _, dq, by first | rfl | (congr 1 <;> omega), by first | rfl | (congr 1 <;> omega), by first | rfl | (congr 1 <;> omega), rfl, rfl, by omega, SQ.out⟩
                  case measure => simp [intOf]; omega
              | false =>
                have HV := Lib.hid hlv
                clear hlv
                go_wp2_with fail
                refine (less_at SV.out.r (a - 1) p HV.out (by omega) (by omega) (by omega) (by omega)).mono ?_
                rintro e wl ⟨rfl, hRl, hUl⟩
                have SL := Lib.hid (SV.out.still hRl hUl)
                clear hRl hUl
                go_wp2_with fail
                refine (peq_at SL.out.r hN a b p (by omega) (by omega) (by omega) (by omega) (by omega) (by omega)).mono ?_
                rintro e wp ⟨m, dp, rfl, hRp, hUp, hEq⟩
                have hm1 := hEq.am
                have hm2 := hEq.mb
                have SQ := Lib.hid (Qs.mk hRp (SL.out.u.trans hUp) (SL.out.q.equal SL.out.r.size (by omega) hEq (by omega) HV.out))
                clear hRp hUp hEq
                go_wp2_with fail
                go_roundw
                case rel => exact ⟨m, b, (lim - 1), _, _, dp, by first | rfl | (congr 1 <;> omega), by first | rfl | (congr 1 <;> omega), by first | rfl | (congr 1 <;> omega), rfl, rfl, by omega, SQ.out⟩
                case measure => simp [intOf]; omega
theorem pdq_all (HL : LenC) {w0 : World} {g N : Nat} (hN : N ≤ 65536) (n : Nat) : PdqC w0 g N n := by
  induction n with
  | zero => intro a b lim d w x y z h; omega
  | succ n ih =>
    intro a b lim d w x y z h1 h2 h3 h4 h5 h6 h7 h8 h9
    subst h5 h6 h7
    exact pdq_step HL hN ih a b lim d w h1 h2 h3 h4 h8 h9
end Go.Proofs.Ytmnoffiblcnjpaa
