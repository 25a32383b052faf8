/-
  The walk of FnLowestCommonAncestorIsCommonComponentPrefix; conditions: what the listed tables hold.
-/
import Derived.Test.YtcpaepfhjhcaoaaDoorMod
import Derived.Test.YtcpaepfhjhcaoaaDoorLaid
namespace Go.Proofs.YtcpaepfhjhcaoaaDoor
open Go.RowKit

def AncEnd (es : List (ByteArray × Bool)) (w : World) (e : Ending) (w' : World) : Prop := e = .returned (.string (S (low0 (autos es)))) ∧ Below w.heap.size w w'
set_option maxHeartbeats 1000000 in
theorem anc_any (g n c : Nat) (es : List (ByteArray × Bool)) (w : World) (hr : EntRow w g es) (hl : es.length = n) (hn : n ≤ 8192) (hc : ∀ p ∈ es, p.2 = true → CleanP p.1.data.toList) (hs : ∀ p ∈ es, p.2 = true → p.1.size ≤ 2097152) (hT : Tabs w) :
    Calls Tryd.prog 11 #[.slice (some ⟨g, 0, none⟩) n c] w (AncEnd es w) := by
  have HL := Lib.hid (fun (b : Nat) (w1 : World) (hb : Below w.heap.size w w1) (hk : w1.cell? ⟨b, 4, none⟩ = some (.int .u8 0)) => lowest_any b g n c es w1 ⟨hr.up hb, hl, hn, hc, hs, hk, hT.up hb⟩)
  clear hr hl hn hc hs hT
  go_enter Tryd.func11, Tryd.ntmps11
  go_wp2_with fail
  refine (mock_any _ _).mono ?_
  rintro e w1 ⟨⟨b, rfl, h2, h4⟩, hb⟩
  have HB := Lib.hid hb
  have HH := Lib.hid h4
  clear hb h2 h4
  go_wp2_with fail
  refine (HL.out b _ HB.out HH.out).mono ?_
  rintro e w2 ⟨rfl, hb2⟩
  have HB2 := Lib.hid (HB.out.trans (hb2.mono HB.out.size))
  clear hb2
  go_wp2_with fail
  go_ret
  exact ⟨rfl, HB2.out⟩

theorem pairs_clean {ss : List ByteArray} {au : List Bool} (h : Fit ss au) : (∀ p ∈ pairs ss au, p.2 = true → CleanP p.1.data.toList) ∧ (∀ p ∈ pairs ss au, p.2 = true → p.1.size ≤ 2097152) := by
  have key : ∀ p ∈ pairs ss au, p.2 = true → ∃ i : Nat, i < min ss.length au.length ∧ au[i]? = some true ∧ ss[i]? = some p.1 := by
    intro p hp h2
    exact auto_in (List.mem_map.2 ⟨p, List.mem_filter.2 ⟨hp, h2⟩, rfl⟩)
  refine ⟨fun p hp h2 => ?_, fun p hp h2 => ?_⟩
  · obtain ⟨i, hi, h1, h3⟩ := key p hp h2
    exact h.clean i _ hi h1 h3
  · obtain ⟨i, hi, h1, h3⟩ := key p hp h2
    have := (h.ok hi h1 h3).2.2
    omega

set_option maxHeartbeats 4000000 in
set_option maxRecDepth 100000 in
theorem fnLowestCommonAncestorIsCommonComponentPrefix_walk (a0 : Option Addr) (l0 c0 : Nat) (ss : List ByteArray) (a1 : Option Addr) (l1 c1 : Nat) (au : List Bool) (w : World) (h0 : InRow w a0 l0 c0 (ss.map Value.string)) (hs : ∀ s ∈ ss, s.size ≤ maxLen) (h1 : InRow w a1 l1 c1 (au.map Value.bool)) (hT : Tabs w) :
    Calls Tryd.prog 3 #[.slice a0 l0 c0, .slice a1 l1 c1] w fun e w' => e = .returned (.bool true) ∧ Below w.heap.size w w' := by
  have hcap := h1.cap
  have H := Lib.hid (And.intro h0 (And.intro hs (And.intro h1 hT)))
  have hl1 : l1 ≤ maxLen := by omega
  have hlen := h0.len
  have hlen1 := h1.len
  rw [List.length_map] at hlen hlen1
  have HL := Lib.hid (And.intro hl1 (And.intro hlen hlen1))
  clear h0 hs h1 hT hcap hl1 hlen hlen1
  go_enter Tryd.func3, Tryd.ntmps3
  go_wp2_with fail
  refine (bytesA_any a0 a1 l0 c0 l1 c1 ss _ H.out.1 H.out.2.1 HL.out.1).mono ?_
  rintro e w' ⟨b, rfl, rfl, hb⟩
  cases b
  · clear hb
    go_wp2_with fail
    go_ret
    exact ⟨rfl, Below.refl _ _⟩
  have htot := hb rfl
  have HT := Lib.hid htot
  clear hb htot
  go_wp2_with fail
  refine (fits_any a0 a1 l0 c0 l1 c1 ss au 0 _ H.out.1 H.out.2.2.1 (by omega) HT.out).mono ?_
  rintro e w' ⟨b, rfl, rfl, hb⟩
  cases b
  · clear hb
    go_wp2_with fail
    go_ret
    exact ⟨rfl, Below.refl _ _⟩
  have hfit := hb rfl
  have HF := Lib.hid hfit
  have b0 : l0 ≤ 4096 := by have := hfit.l0; have := HL.out.2.1; omega
  have b1 : l1 ≤ 4096 := by have := hfit.l1; have := HL.out.2.2; omega
  clear hb hfit
  go_wp2_with fail
  refine (cloneS a0 l0 c0 ss _ H.out.1 (by omega)).mono ?_
  rintro e w1 ⟨A0, C0, rfl, hr0, hb1⟩
  have HR0 := Lib.hid (And.intro hr0 hb1)
  clear hr0 hb1
  go_wp2_with fail
  refine (cloneB a1 l1 c1 au _ (H.out.2.2.1.up HR0.out.2) (by omega)).mono ?_
  rintro e w2 ⟨A1, C1, rfl, hr1, hb2⟩
  have HR1 := Lib.hid (And.intro (HR0.out.1.up hb2) (And.intro hr1 (HR0.out.2.trans (hb2.mono HR0.out.2.size))))
  clear hr1 hb2
  go_wp2_with fail
  refine (min_any l0 l1 _).mono ?_
  rintro e w3 ⟨rfl, rfl⟩
  obtain ⟨n, hn⟩ : ∃ n, min l0 l1 = n := ⟨_, rfl⟩
  have hn4 : n ≤ 4096 := by omega
  rw [hn]
  have HN := Lib.hid hn.symm
  clear hn
  go_wp2_with fail
  refine (entries_any A0 A1 l0 C0 l1 C1 ss au n 0 _ HR1.out.1 HR1.out.2.1 HN.out b0 (by omega)).mono ?_
  rintro e w3 ⟨rfl, hrow, hb3⟩
  have hpl : (pairs ss au).length = n := by rw [pairs_len, HL.out.2.1, HL.out.2.2]; exact HN.out.symm
  have HE := Lib.hid (And.intro (entRow_of hrow (Nat.le_refl _) (pairs ss au) hpl (fun i p hp => pairs_get hp)) (And.intro hpl (HR1.out.2.2.trans (hb3.mono HR1.out.2.2.size))))
  have HR3 := Lib.hid (And.intro (HR1.out.1.up hb3) (HR1.out.2.1.up hb3))
  clear hpl hrow hb3
  go_wp2_with fail
  refine (anc_any _ n _ (pairs ss au) _ HE.out.1 HE.out.2.1 (by omega) (pairs_clean HF.out).1 (pairs_clean HF.out).2 (H.out.2.2.2.up HE.out.2.2)).mono ?_
  rintro e w4 ⟨rfl, hb4⟩
  have HR4 := Lib.hid (And.intro (HR3.out.1.up hb4) (And.intro (HR3.out.2.up hb4) (HE.out.2.2.trans (hb4.mono HE.out.2.2.size))))
  clear hb4
  go_wp2_with fail
  refine (model_any A0 A1 l0 C0 l1 C1 ss au n _ HR4.out.1 HR4.out.2.1 HN.out HF.out).mono ?_
  rintro e w5 ⟨rfl, m, rfl⟩
  have HR5 := Lib.hid (below_drewN HR4.out.2.2 m)
  go_wp2_with fail
  go_ret
  exact ⟨by simp, HR5.out⟩
end Go.Proofs.YtcpaepfhjhcaoaaDoor
