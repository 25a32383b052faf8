/-
  The walk of FnFileInAncestorKeepsAncestor; conditions: what the listed tables hold.
-/
import Derived.Test.YtcpaepfhjhcaoaaDoorWalkB
namespace Go.Proofs.YtcpaepfhjhcaoaaDoor
open Go.RowKit

def zzJsB : ByteArray := ⟨#[47, 122, 122, 46, 106, 115]⟩
/-- What the second call finds: the entries with the two new ones. -/
structure More (ss : List ByteArray) (au : List Bool) (extra ans child : ByteArray) : Prop where
  val : ans = S (low0 (autos (pairs ss au)))
  small : child.size ≤ 2097152
  clean : CleanP child.data.toList
  same : S (low0 (autos (pairs ss au ++ [(extra, false)] ++ [(child, true)]))) = ans
theorem more_of {ss : List ByteArray} {au : List Bool} (hf : Fit ss au) (hne : autos (pairs ss au) ≠ []) (extra ans : ByteArray) (ha : ans = S (low0 (autos (pairs ss au)))) :
    ans.toList.isEmpty = false ∧ ans.size ≤ 1048576 ∧ (ans.toList == [47]) = decide (ans = S [47]) ∧ (ans = S [47] → More ss au extra ans zzJsB) ∧ (¬ ans = S [47] → More ss au extra ans (ans ++ zzJsB)) := by
  have hall : ∀ p ∈ autos (pairs ss au), Comps (cmp p.data.toList) := fun p hp => by
    obtain ⟨i, hi, h1, h2⟩ := auto_in hp
    exact (hf.ok hi h1 h2).1
  obtain ⟨L, hL, hlow, hnext⟩ := low0_shape hall hne
  rw [hlow] at ha
  have hsz : (D L).length ≤ 1048576 := by
    have key : ∀ p ∈ autos (pairs ss au), (D (dirC p)).length ≤ 1048576 := fun p hp => by
      obtain ⟨i, hi, h1, h2⟩ := auto_in hp
      obtain ⟨_, h3, h4⟩ := hf.ok hi h1 h2
      rw [Lib.size_eq, h3] at h4
      unfold dirC
      rw [List.dropLast_eq_take]
      exact Nat.le_trans (len_D_take _ _) h4
    rw [← hlow]
    cases hp : autos (pairs ss au) with
    | nil => exact absurd hp hne
    | cons p r =>
      rw [hp] at key
      exact cut_len (key p (by simp)) (fun d hd => by
        obtain ⟨x, hx, rfl⟩ := List.mem_map.1 hd
        exact key x (List.mem_cons_of_mem _ hx))
  have same : ∀ c : ByteArray, dirC c = L → S (low0 (autos (pairs ss au ++ [(extra, false)] ++ [(c, true)]))) = ans := fun c hc => by
    have e : autos (pairs ss au ++ [(extra, false)] ++ [(c, true)]) = autos (pairs ss au) ++ [c] := by
      rw [autos_append, autos_append]
      show autos (pairs ss au) ++ [] ++ [c] = _
      rw [List.append_nil]
    rw [e, hnext c hc, ha]
  have hroot : ans = S [47] ↔ L = [] := by
    rw [ha]
    constructor
    · intro h
      have h2 := S_inj h
      by_cases h0 : L = []
      · exact h0
      · rw [D_T h0] at h2
        cases L with
        | nil => rfl
        | cons x r =>
          rw [T] at h2
          injection h2 with _ h3
          have := congrArg List.length h3
          simp at this
          exact absurd this.1 (hL x (by simp)).1
    · rintro rfl
      rfl
  refine ⟨?_, by rw [ha, S_size]; exact hsz, ?_, ?_, ?_⟩
  · rw [ha, S_toList]
    obtain ⟨r, hr⟩ := D_head L
    rw [hr]
    rfl
  · rw [Bool.eq_iff_iff, beq_iff_eq, decide_eq_true_iff, Lib.toList_data]
    exact ⟨fun h => eq_S h, fun h => by rw [h, S_data]⟩
  · intro h
    obtain ⟨h1, h2⟩ := child_data zzJsB hL (child_root L (hroot.1 h))
    exact ⟨by rw [hlow]; exact ha, by decide, h1, same _ h2⟩
  · intro h
    have h0 : L ≠ [] := fun e => h (hroot.2 e)
    have hd : (ans ++ zzJsB).data.toList = T (L ++ [zzJs]) := by rw [ha]; exact child_in L h0
    obtain ⟨h1, h2⟩ := child_data _ hL hd
    refine ⟨by rw [hlow]; exact ha, ?_, h1, same _ h2⟩
    rw [ByteArray.size_append, ha, S_size]
    show (D L).length + 6 ≤ _
    omega

set_option maxHeartbeats 4000000 in
set_option maxRecDepth 100000 in
theorem tail_walk (ss : List ByteArray) (au : List Bool) (n : Nat) (w0 w : World) (base g : Nat) (extra ans child : ByteArray) (hb : Below w0.heap.size w0 w) (hT : Tabs w0) (hf : Fit ss au) (hpl : (pairs ss au).length = n) (hn : n ≤ 4096) (hm : More ss au extra ans child)
    (ho : w.ownsRow base 36 3 (.slice (some ⟨g, 0, none⟩) (n + 1 + 1) (n + 2)) (n + 1 + 1) (entFlat (pairs ss au ++ [(extra, false)] ++ [(child, true)]))) : Calls Tryd.prog 11 #[.slice (some ⟨g, 0, none⟩) (n + 1 + 1) (n + 2)] w fun e w' => e = .returned (.string ans) ∧ Below w.heap.size w w' := by
  have h := anc_any g (n + 1 + 1) (n + 2) (pairs ss au ++ [(extra, false)] ++ [(child, true)]) w (ent_own ho) (by simp [hpl]) (by omega) (fun p hp h2 => ?_) (fun p hp h2 => ?_) (hT.up hb)
  · refine h.mono ?_
    rintro e w' ⟨he, hb2⟩
    exact ⟨by rw [he, hm.same], hb2⟩
  · rcases List.mem_append.1 hp with hp | hp
    · rcases List.mem_append.1 hp with hp | hp
      · exact (pairs_clean hf).1 p hp h2
      · obtain rfl : p = (extra, false) := by simpa using hp
        cases h2
    · obtain rfl : p = (child, true) := by simpa using hp
      exact hm.clean
  · rcases List.mem_append.1 hp with hp | hp
    · rcases List.mem_append.1 hp with hp | hp
      · exact (pairs_clean hf).2 p hp h2
      · obtain rfl : p = (extra, false) := by simpa using hp
        cases h2
    · obtain rfl : p = (child, true) := by simpa using hp
      exact hm.small

set_option maxHeartbeats 4000000 in
set_option maxRecDepth 100000 in
theorem fnFileInAncestorKeepsAncestor_walk (a0 : Option Addr) (l0 c0 : Nat) (ss : List ByteArray) (a1 : Option Addr) (l1 c1 : Nat) (au : List Bool) (extra : ByteArray) (w : World) (h0 : InRow w a0 l0 c0 (ss.map Value.string)) (hs : ∀ s ∈ ss, s.size ≤ maxLen) (h1 : InRow w a1 l1 c1 (au.map Value.bool)) (hx : extra.size ≤ maxLen) (hT : Tabs w) :
    Calls Tryd.prog 4 #[.slice a0 l0 c0, .slice a1 l1 c1, .string extra] w fun e w' => e = .returned (.bool true) ∧ Below w.heap.size w w' := by
  have hcap := h1.cap
  have H := Lib.hid (And.intro h0 (And.intro hs (And.intro h1 hT)))
  have hl1 : l1 ≤ maxLen := by omega
  have hlen := h0.len
  have hlen1 := h1.len
  rw [List.length_map] at hlen hlen1
  have HL := Lib.hid (And.intro hl1 (And.intro hlen (And.intro hlen1 hx)))
  clear h0 hs h1 hT hcap hl1 hlen hlen1
  unfold maxLen at hx
  obtain ⟨i0, hi, hz0, hz1, hz2⟩ := info_parts infoEnt
  have HI := Lib.hid (And.intro hi (And.intro hz0 (And.intro hz1 hz2)))
  clear hi hz0 hz1 hz2
  go_enter Tryd.func4, Tryd.ntmps4
  go_wp2_with fail
  refine (bytesB_any a0 a1 l0 c0 l1 c1 ss extra _ H.out.1 H.out.2.1 HL.out.1 HL.out.2.2.2).mono ?_
  rintro e w' ⟨b, rfl, rfl, hb⟩
  cases b
  · clear hb
    go_wp2_with fail
    go_ret
    exact ⟨rfl, Below.refl _ _⟩
  have htot := hb rfl
  have HT := Lib.hid htot
  clear hb htot
  by_cases hex : extra.size ≤ 524288
  case neg =>
    go_wp2_with fail
    go_ret
    exact ⟨rfl, Below.refl _ _⟩
  go_wp2_with fail
  refine (fits_any a0 a1 l0 c0 l1 c1 ss au (extra.size + 16) _ H.out.1 H.out.2.2.1 (by omega) HT.out).mono ?_
  rintro e w' ⟨b, rfl, rfl, hb⟩
  cases b
  · clear hb
    go_wp2_with fail
    go_ret
    exact ⟨rfl, Below.refl _ _⟩
  have hfit := hb rfl
  have HF := Lib.hid hfit
  have b0 : l0 ≤ 4096 := by have := hfit.l0; have := HL.out.2.1; omega
  have b1 : l1 ≤ 4096 := by have := hfit.l1; have := HL.out.2.2.1; omega
  clear hb hfit
  go_wp2_with fail
  refine (cloneS a0 l0 c0 ss _ H.out.1 (by omega)).mono ?_
  rintro e w1 ⟨A0, C0, rfl, hr0, hb1⟩
  have HR0 := Lib.hid (And.intro hr0 hb1)
  clear hr0 hb1
  go_wp2_with fail
  refine (cloneB a1 l1 c1 au _ (H.out.2.2.1.up HR0.out.2) (by omega)).mono ?_
  rintro e w2 ⟨A1, C1, rfl, hr1, hb2⟩
  have HR1 := Lib.hid (And.intro (HR0.out.1.up hb2) (And.intro hr1 (HR0.out.2.trans (hb2.mono HR0.out.2.size))))
  clear hr1 hb2
  go_wp2_with fail
  refine (min_any l0 l1 _).mono ?_
  rintro e w3 ⟨rfl, rfl⟩
  obtain ⟨n, hn⟩ : ∃ n, min l0 l1 = n := ⟨_, rfl⟩
  have hn4 : n ≤ 4096 := by omega
  rw [hn]
  have HN := Lib.hid hn.symm
  clear hn
  go_wp2_with fail
  refine (entries_any A0 A1 l0 C0 l1 C1 ss au n 0 _ HR1.out.1 HR1.out.2.1 HN.out b0 (by omega)).mono ?_
  rintro e w3 ⟨rfl, hrow, hb3⟩
  have hpl : (pairs ss au).length = n := by rw [pairs_len, HL.out.2.1, HL.out.2.2.1]; exact HN.out.symm
  have HE := Lib.hid (And.intro (entRow_of hrow (Nat.le_refl _) (pairs ss au) hpl (fun i p hp => pairs_get hp)) (And.intro hpl (HR1.out.2.2.trans (hb3.mono HR1.out.2.2.size))))
  have HR3 := Lib.hid (And.intro (HR1.out.1.up hb3) (HR1.out.2.1.up hb3))
  clear hpl hrow hb3
  go_wp2_with fail
  refine (anc_any _ n _ (pairs ss au) _ HE.out.1 HE.out.2.1 (by omega) (pairs_clean HF.out).1 (pairs_clean HF.out).2 (H.out.2.2.2.up HE.out.2.2)).mono ?_
  rintro e w4 ⟨rfl, hb4⟩
  have HR4 := Lib.hid (And.intro (HR3.out.1.up hb4) (And.intro (HR3.out.2.up hb4) (HE.out.2.2.trans (hb4.mono HE.out.2.2.size))))
  clear hb4
  by_cases hne : autos (pairs ss au) = []
  · have HE0 := Lib.hid hne
    have q0 : (S (low0 (autos (pairs ss au)))).toList.isEmpty = true := by rw [hne, S_toList]; rfl
    clear hne
    go_wp2_with fail
    go_ret
    exact ⟨rfl, HR4.out.2.2⟩
  obtain ⟨ans, hans⟩ : ∃ ans, S (low0 (autos (pairs ss au))) = ans := ⟨_, rfl⟩
  obtain ⟨q0, hasz, q1, hm1, hm2⟩ := more_of HF.out hne extra ans hans.symm
  rw [hans]
  have HM := Lib.hid (And.intro hm1 hm2)
  clear hans hne hm1 hm2
  have qs : ∀ wx, (Op.stringOp .add ans ⟨#[47, 122, 122, 46, 106, 115]⟩).run Tryd.prog wx = .ok (.string (ans ++ zzJsB)) wx := fun wx => run_string_add_sum wx ans _ (by show ans.size + 6 ≤ _; omega)
  by_cases hroot : ans = S [47]
  · rw [decide_eq_true hroot] at q1
    have HMM := Lib.hid (HM.out.1 hroot)
    clear hroot
    go_wp2_with fail
    refine (entries_any A0 A1 l0 C0 l1 C1 ss au n 2 _ HR4.out.1 HR4.out.2.1 HN.out b0 (by omega)).mono ?_
    rintro e w5 ⟨rfl, hrow, hb5⟩
    have HO := Lib.hid (own_ent hrow (by omega) (by unfold maxLen; omega) (pairs ss au) HE.out.2.1 (fun i p hp => pairs_get hp))
    have HB5 := Lib.hid (And.intro (HR4.out.2.2.trans (hb5.mono HR4.out.2.2.size)) hb5)
    clear hrow hb5
    go_wp2_with (first | (at_builtin; refine wpList_append_fits _ rfl (.tmp 50) (.tmp 53) 29 rfl w4.heap.size 36 i0 3 Tryd.underlying29 HI.out.1 HI.out.2.2.1 w4.heap.size n (n + 2) (entFlat (pairs ss au)) rfl (HO.out.alloc _) ⟨w5.heap.size, 0, none⟩ 1 1 [.string extra, .int .u32 0, .bool false] rfl rfl (three_at _ _ _ _ _) (by intro u hu; simp at hu; rcases hu with rfl | rfl | rfl <;> rfl) (by omega) ?_; intro w6 hown6 hg6) | (at_builtin; refine wpList_append_fits _ rfl (.tmp 55) (.tmp 58) 29 rfl w4.heap.size 36 i0 3 Tryd.underlying29 HI.out.1 HI.out.2.2.1 w4.heap.size (n + 1) (n + 2) (entFlat (pairs ss au) ++ [.string extra, .int .u32 0, .bool false]) rfl (hown6.alloc _) ⟨w6.heap.size, 0, none⟩ 1 1 [.string (zzJsB), .int .u32 0, .bool true] rfl rfl (three_at _ _ _ _ _) (by intro u hu; simp at hu; rcases hu with rfl | rfl | rfl <;> rfl) (by omega) ?_; intro w7 hown7 hg7))
    have hs5 := HB5.out.2.size
    have hb6 : Below w.heap.size w w6 := (HB5.out.1.alloc HB5.out.1.size _).grown hg6 (by have := HB5.out.1.size; simp; omega) (fun k hk => by cases hk; exact HR4.out.2.2.size)
    have hb7 : Below w.heap.size w w7 := (hb6.alloc hb6.size _).grown hg7 (by have := hb6.size; simp; omega) (fun k hk => by cases hk; exact HR4.out.2.2.size)
    have hof : w7.ownsRow w4.heap.size 36 3 (.slice (some ⟨w4.heap.size, 0, none⟩) (n + 1 + 1) (n + 2)) (n + 1 + 1) (entFlat (pairs ss au ++ [(extra, false)] ++ [(zzJsB, true)])) := by
      rw [entFlat_append, entFlat_append]
      exact hown7
    have HTW := Lib.hid (tail_walk ss au n w w7 w4.heap.size w4.heap.size extra ans (zzJsB) hb7 H.out.2.2.2 HF.out HE.out.2.1 hn4 HMM.out hof)
    have HB7 := Lib.hid hb7
    clear hown6 hown7 hg6 hg7 hb6 hb7 hof hs5
    go_wp2_with fail
    refine HTW.out.mono ?_
    rintro e w8 ⟨rfl, hb8⟩
    have HB8 := Lib.hid (HB7.out.trans (hb8.mono HB7.out.size))
    clear hb8
    go_wp2_with fail
    go_ret
    exact ⟨by simp, HB8.out⟩
  · rw [decide_eq_false hroot] at q1
    have HMM := Lib.hid (HM.out.2 hroot)
    clear hroot
    go_wp2_with fail
    refine (entries_any A0 A1 l0 C0 l1 C1 ss au n 2 _ HR4.out.1 HR4.out.2.1 HN.out b0 (by omega)).mono ?_
    rintro e w5 ⟨rfl, hrow, hb5⟩
    have HO := Lib.hid (own_ent hrow (by omega) (by unfold maxLen; omega) (pairs ss au) HE.out.2.1 (fun i p hp => pairs_get hp))
    have HB5 := Lib.hid (And.intro (HR4.out.2.2.trans (hb5.mono HR4.out.2.2.size)) hb5)
    clear hrow hb5
    go_wp2_with (first | (at_builtin; refine wpList_append_fits _ rfl (.tmp 50) (.tmp 53) 29 rfl w4.heap.size 36 i0 3 Tryd.underlying29 HI.out.1 HI.out.2.2.1 w4.heap.size n (n + 2) (entFlat (pairs ss au)) rfl (HO.out.alloc _) ⟨w5.heap.size, 0, none⟩ 1 1 [.string extra, .int .u32 0, .bool false] rfl rfl (three_at _ _ _ _ _) (by intro u hu; simp at hu; rcases hu with rfl | rfl | rfl <;> rfl) (by omega) ?_; intro w6 hown6 hg6) | (at_builtin; refine wpList_append_fits _ rfl (.tmp 55) (.tmp 58) 29 rfl w4.heap.size 36 i0 3 Tryd.underlying29 HI.out.1 HI.out.2.2.1 w4.heap.size (n + 1) (n + 2) (entFlat (pairs ss au) ++ [.string extra, .int .u32 0, .bool false]) rfl (hown6.alloc _) ⟨w6.heap.size, 0, none⟩ 1 1 [.string (ans ++ zzJsB), .int .u32 0, .bool true] rfl rfl (three_at _ _ _ _ _) (by intro u hu; simp at hu; rcases hu with rfl | rfl | rfl <;> rfl) (by omega) ?_; intro w7 hown7 hg7))
    have hs5 := HB5.out.2.size
    have hb6 : Below w.heap.size w w6 := (HB5.out.1.alloc HB5.out.1.size _).grown hg6 (by have := HB5.out.1.size; simp; omega) (fun k hk => by cases hk; exact HR4.out.2.2.size)
    have hb7 : Below w.heap.size w w7 := (hb6.alloc hb6.size _).grown hg7 (by have := hb6.size; simp; omega) (fun k hk => by cases hk; exact HR4.out.2.2.size)
    have hof : w7.ownsRow w4.heap.size 36 3 (.slice (some ⟨w4.heap.size, 0, none⟩) (n + 1 + 1) (n + 2)) (n + 1 + 1) (entFlat (pairs ss au ++ [(extra, false)] ++ [(ans ++ zzJsB, true)])) := by
      rw [entFlat_append, entFlat_append]
      exact hown7
    have HTW := Lib.hid (tail_walk ss au n w w7 w4.heap.size w4.heap.size extra ans (ans ++ zzJsB) hb7 H.out.2.2.2 HF.out HE.out.2.1 hn4 HMM.out hof)
    have HB7 := Lib.hid hb7
    clear hown6 hown7 hg6 hg7 hb6 hb7 hof hs5
    go_wp2_with fail
    refine HTW.out.mono ?_
    rintro e w8 ⟨rfl, hb8⟩
    have HB8 := Lib.hid (HB7.out.trans (hb8.mono HB7.out.size))
    clear hb8
    go_wp2_with fail
    go_ret
    exact ⟨by simp, HB8.out⟩
end Go.Proofs.YtcpaepfhjhcaoaaDoor
