/-
  The walk of the law that the metafile ignores the indirection: it returns true for every input; conditions: none (an input beyond the guards answers at once).
-/
import Derived.Test.YtejdbjfniepomaaFmtKept
namespace Go.Proofs.YtejdbjfniepomaaFmt
open Go.RowKit

/-- The kept chunks by themselves. -/
def ids (m : Nat) : List Int := (List.range m).map fun (i : Nat) => (i : Int)
theorem nat_ids (m : Nat) : nat (ids m) = List.range m := by
  unfold nat ids
  rw [List.map_map]
  conv => rhs; rw [← List.map_id (List.range m)]
  exact List.map_congr_left fun i _ => by simp
theorem ids_length (m : Nat) : (ids m).length = m := by simp [ids]
theorem ids_mem {m : Nat} {z : Int} (h : z ∈ ids m) : 0 ≤ z ∧ z.toNat < m := by
  unfold ids at h
  obtain ⟨i, hi, rfl⟩ := List.mem_map.1 h
  have := List.mem_range.1 hi
  exact ⟨by omega, by omega⟩
theorem sum_take (ks : List (List UInt8)) : ∀ n, n ≤ ks.length → unfoldSize ks (List.range n) = sumLen (ks.take n) + 8 * n
  | 0, _ => by simp [unfoldSize, sumLen]
  | n + 1, hn => by
    have ih := sum_take ks n (by omega)
    unfold unfoldSize sumLen at ih ⊢
    rw [List.range_succ, List.map_append, List.sum_append, ih, List.take_succ_eq_append_getElem (by omega : n < ks.length), List.map_append, List.sum_append]
    simp only [List.map_cons, List.map_nil, List.sum_cons, List.sum_nil]
    have : ks.getD n [] = ks[n] := by rw [List.getD_eq_getElem?_getD, List.getElem?_eq_getElem (by omega)]; rfl
    rw [this]
    omega
theorem len_le_sum (ks : List (List UInt8)) : ∀ x ∈ ks, x.length ≤ sumLen ks := by
  intro x hx
  induction ks with
  | nil => simp at hx
  | cons a r ih =>
    unfold sumLen at ih ⊢
    simp only [List.map_cons, List.sum_cons]
    rcases List.mem_cons.1 hx with rfl | hx
    · omega
    · have := ih hx
      omega
theorem again_text (ch : List (List UInt8)) (om : List Bool) (rc : List Nat) (K : List (List UInt8)) (hK : K = kept ch om rc) : metaText (kept K (List.replicate K.length false) (List.range K.length)) = metaText K := by
  rw [kept_all K (by rw [hK]; exact kept_nonempty ch om rc) _ (by intro b hb; exact List.eq_of_mem_replicate hb) K.length (Nat.le_refl _), List.take_length]

def IdsRel (m : Nat) (w : World) (s : Value) (wr : World) : Prop :=
  ∃ k : Nat, k ≤ m ∧ s = .int .i64 k ∧ Row wr w.heap.size 31 m (fun j => .int .u32 (if j < k then (j : Int) else 0)) ∧ Below w.heap.size w wr


set_option maxHeartbeats 4000000 in
set_option maxRecDepth 100000 in
theorem fnGenerateMetadataJSONIgnoresIndirection_walk (a0 : Option Addr) (n c0 : Nat) (ss : List ByteArray) (a1 : Option Addr) (l1 c1 : Nat) (om : List Bool) (a2 : Option Addr) (l2 c2 : Nat) (zs : List Int) (w : World)
    (h0 : InRow w a0 n c0 (ss.map Value.string)) (hss : ∀ s ∈ ss, s.size ≤ maxLen) (h1 : InRow w a1 l1 c1 (om.map Value.bool)) (h2 : InRow w a2 l2 c2 (zs.map (Value.int .u32))) (hz : ∀ z ∈ zs, (Lit.int .u32 z).wf = true) :
    Calls Tryf.prog 3 #[.slice a0 n c0, .slice a1 l1 c1, .slice a2 l2 c2] w fun e w' => e = .returned (.bool true) ∧ Below w.heap.size w w' := by
  have p1 := Nat.le_trans h1.cap.1 h1.cap.2
  have p2 := Nat.le_trans h2.cap.1 h2.cap.2
  have H := Lib.hid (And.intro h0 (And.intro h1 h2))
  have HS := Lib.hid (And.intro hss hz)
  clear h0 h1 h2 hss hz
  obtain ⟨i4, hi, hz0, hz1, hz2⟩ := info_parts info4
  have HI4 := Lib.hid (And.intro hi (And.intro hz0 (And.intro hz1 hz2)))
  clear hi hz0 hz1 hz2
  obtain ⟨i31, hi, hz0, hz1, hz2⟩ := info_parts info31
  have HI31 := Lib.hid (And.intro hi (And.intro hz0 (And.intro hz1 hz2)))
  clear hi hz0 hz1 hz2
  go_enter Tryf.func3, Tryf.ntmps3
  go_wp2_with fail
  refine (zz5_any a0 a1 a2 n c0 l1 c1 l2 c2 ss _ H.out.1 HS.out.1 p1 p2).mono ?_
  rintro e w' ⟨b, rfl, rfl, hb⟩
  cases b
  · go_wp2_with fail
    go_ret
    exact ⟨rfl, Below.refl _ _⟩
  have HSm := Lib.hid (hb rfl)
  clear hb
  go_wp2_with fail
  refine (zz6_any a0 a1 a2 n c0 l1 c1 l2 c2 ss _ H.out.1 HSm.out p1 p2).mono ?_
  rintro e w' ⟨b, rfl, rfl, hb⟩
  cases b
  · go_wp2_with fail
    go_ret
    exact ⟨rfl, Below.refl _ _⟩
  have hsz := hb rfl
  clear hb
  go_wp2_with fail
  refine (zz7_any a0 a1 a2 n c0 l1 c1 l2 c2 ss zs _ H.out.1 HSm.out H.out.2.2 HS.out.2 hsz).mono ?_
  rintro e w' ⟨b, rfl, rfl, hb⟩
  obtain ⟨q0, q1, q2⟩ := hsz
  cases b
  · go_wp2_with fail
    go_ret
    exact ⟨rfl, Below.refl _ _⟩
  obtain ⟨hl1, hin, hun⟩ := hb rfl
  subst hl1
  have HD := Lib.hid (And.intro hin hun)
  clear hb hin hun
  go_wp2_with fail
  refine (clone8 a0 l1 c0 ss _ H.out.1 (by omega)).mono ?_
  rintro e w1 ⟨A0, d0, rfl, hr0, hb1⟩
  have HC0 := Lib.hid (And.intro hr0 hb1)
  clear hr0 hb1
  go_wp2_with fail
  refine (clone9 a1 l1 c1 om _ (H.out.2.1.up HC0.out.2) (by omega)).mono ?_
  rintro e w2 ⟨A1, d1, rfl, hr1, hb2⟩
  have hB2 := HC0.out.2.trans (hb2.mono HC0.out.2.size)
  have HC1 := Lib.hid (And.intro (HC0.out.1.up hb2) (And.intro hr1 hB2))
  clear hr1 hb2 hB2
  go_wp2_with fail
  refine (clone10 a2 l2 c2 zs _ (H.out.2.2.up HC1.out.2.2) (by omega)).mono ?_
  rintro e w3 ⟨A2, d2, rfl, hr2, hb3⟩
  have hB3 := HC1.out.2.2.trans (hb3.mono HC1.out.2.2.size)
  have HC2 := Lib.hid (And.intro (HC1.out.1.up hb3) (And.intro (HC1.out.2.1.up hb3) (And.intro hr2 hB3)))
  clear hr2 hb3 hB3
  go_wp2_with fail
  refine (shim_any A0 A1 A2 l1 d0 d1 l2 d2 ss om zs _ HC2.out.1 HC2.out.2.1 HSm.out HC2.out.2.2.1 HS.out.2 HD.out.1 HD.out.2 q2 (by omega)).mono ?_
  rintro e w4 ⟨rfl, hb4⟩
  obtain ⟨K, hK⟩ : ∃ K, K = kept (lst ss) om (nat zs) := ⟨_, rfl⟩
  have hKl := kept_len (lst ss) om (nat zs)
  rw [← hK] at hKl ⊢
  have hB4 := HC2.out.2.2.2.trans (hb4.mono HC2.out.2.2.2.size)
  have HC3 := Lib.hid (And.intro (HC2.out.1.up hb4) (And.intro (HC2.out.2.1.up hb4) (And.intro (HC2.out.2.2.1.up hb4) hB4)))
  have HK := Lib.hid (And.intro hK hKl)
  have hKm : K.length ≤ 131072 := by have := HD.out.2; omega
  clear hb4 hB4 hKl hK
  go_wp2_with fail
  refine (kept_any A0 A1 A2 l1 d0 d1 l2 d2 ss om zs _ HC3.out.1 HC3.out.2.1 HSm.out HC3.out.2.2.1 HS.out.2 HD.out.1 HD.out.2 q2).mono ?_
  rintro e w5 ⟨A, cap, rfl, hr5, hb5⟩
  rw [← HK.out.1] at hr5 ⊢
  have hB5 := HC3.out.2.2.2.trans (hb5.mono HC3.out.2.2.2.size)
  have HC5 := Lib.hid (And.intro hr5 hB5)
  clear hr5 hb5 hB5
  go_wp2_with (first | (at_make; refine wpList_make_full _ rfl (.tmp 42) (.tmp 42) 23 rfl w5.heap.size 4 i4 (.bool false) 1 Tryf.underlying23 HI4.out.1 HI4.out.2.1 HI4.out.2.2.1 _ _ _ _ K.length rfl rfl rfl rfl (by rw [HI4.out.2.2.2]; omega) (by unfold maxLen; omega) (Nat.le_refl _) ?_; intro w6 hown6 hgrow6; have H6 := Lib.hid (And.intro hown6 hgrow6); clear hown6 hgrow6) | (at_make; refine wpList_make_full _ rfl (.tmp 45) (.tmp 45) 24 rfl w6.heap.size 31 i31 (.int .u32 0) 1 Tryf.underlying24 HI31.out.1 HI31.out.2.1 HI31.out.2.2.1 _ _ _ _ K.length rfl rfl rfl rfl (by rw [HI31.out.2.2.2]; omega) (by unfold maxLen; omega) (Nat.le_refl _) ?_; intro w7 hown7 hgrow7; have H7 := Lib.hid (And.intro hown7 hgrow7); clear hown7 hgrow7))
  have r6 : Row w6 w5.heap.size 4 (K.length * 1) (fun _ => .bool false) := row_made (size := 1) rfl (by decide) _ (fun i _ => by rw [Nat.mod_one]; rfl) H6.out.1
  rw [Nat.mul_one] at r6
  have hb6 : Below w5.heap.size w5 w6 := (Below.refl _ _).grown H6.out.2 (Nat.le_refl _) (fun k hk => by cases hk)
  have HR6 := Lib.hid (And.intro r6 hb6)
  clear r6 hb6
  have r7 : Row w7 w6.heap.size 31 (K.length * 1) (fun j => .int .u32 (if j < 0 then (j : Int) else 0)) := row_made (size := 1) rfl (by decide) _ (fun i _ => by rw [Nat.mod_one]; rfl) H7.out.1
  rw [Nat.mul_one] at r7
  have hb7 : Below w6.heap.size w6 w7 := (Below.refl _ _).grown H7.out.2 (Nat.le_refl _) (fun k hk => by cases hk)
  have HR7 := Lib.hid (And.intro r7 hb7)
  clear r7 hb7
  go_loopw [11] (fun s11 wr => IdsRel K.length w6 s11 wr) (fun s11 _ => K.length - (intOf s11).toNat)
  case atStart => exact ⟨0, Nat.zero_le _, rfl, HR7.out⟩
  case round =>
    obtain ⟨k, hk, rfl, hr, hb⟩ := hrel
    have HRB := Lib.hid (And.intro hr hb)
    by_cases hlt : k < K.length
    · have e0 := hr.cell hlt
      have f0 := hr.frozen k
      have hrl := hr.lt
      clear hr hb
      go_wp2_with fail
      refine ⟨⟨k + 1, by omega, by go_num, (HRB.out.1.set k _).congr (fun j hj => ?_), HRB.out.2.setCell (p := ⟨w6.heap.size, k, none⟩) (Nat.le_refl _) _⟩, by simp [intOf]; omega⟩
      by_cases e : j = k
      · subst e
        rw [if_pos rfl, if_pos (by omega)]
      · rw [if_neg e]
        by_cases e2 : j < k
        · rw [if_pos e2, if_pos (by omega)]
        · rw [if_neg e2, if_neg (by omega)]
    · obtain rfl : k = K.length := by omega
      have hB67 := HR6.out.2.trans (hb.mono HR6.out.2.size)
      have rK := HC5.out.1.up hB67
      have rB : InRow wr (some ⟨w5.heap.size, 0, none⟩) K.length K.length ((List.replicate K.length false).map Value.bool) :=
        row_in (HR6.out.1.below hb HR6.out.1.lt) (by unfold maxLen; omega) (by simp) (fun i u hu => by
          rw [List.getElem?_map, List.getElem?_replicate] at hu
          split at hu
          · simpa using hu
          · simp at hu)
      have rI : InRow wr (some ⟨w6.heap.size, 0, none⟩) K.length K.length ((ids K.length).map (Value.int .u32)) :=
        row_in hr (by unfold maxLen; omega) (by simp [ids]) (fun i u hu => by
          have hi : i < K.length := by have := (List.getElem?_eq_some_iff.1 hu).1; simpa [ids] using this
          rw [List.getElem?_map] at hu
          unfold ids at hu
          rw [List.getElem?_map, List.getElem?_range hi] at hu
          simp only [Option.map_some, Option.some.injEq] at hu
          rw [if_pos hi, hu])
      have hwf : ∀ z ∈ ids K.length, (Lit.int .u32 z).wf = true := fun z hz => by
        have := ids_mem hz
        simp [Lit.wf, IntKind.min, IntKind.max, IntKind.signed, IntKind.bits]
        omega
      have HQ := Lib.hid (And.intro rK (And.intro rB (And.intro rI (And.intro hwf (HC5.out.2.trans (hB67.mono HC5.out.2.size))))))
      clear hr hb hB67 rK rB rI hwf
      go_wp2_with fail
      refine (shim_any A (some ⟨w5.heap.size, 0, none⟩) (some ⟨w6.heap.size, 0, none⟩) K.length cap K.length K.length K.length (K.map S) (List.replicate K.length false) (ids K.length) _ HQ.out.1 HQ.out.2.1 (fun s hs => by
          obtain ⟨l, hl, rfl⟩ := List.mem_map.1 hs
          have := len_le_sum K l hl
          have h8 := HK.out.2
          have h9 := HD.out.2
          rw [Lib.size_eq, S_data]
          omega) HQ.out.2.2.1 HQ.out.2.2.2.1 (fun z hz => (ids_mem hz).2) (by
          rw [lst_S, nat_ids, sum_take K _ (Nat.le_refl _), List.take_length]
          have h8 := HK.out.2
          have h9 := HD.out.2
          omega) (by omega) (by omega)).mono ?_
      rintro e w8 ⟨rfl, hb8⟩
      rw [lst_S, nat_ids, again_text (lst ss) om (nat zs) K HK.out.1]
      go_wp2_with fail
      go_ret
      exact ⟨by simp, HQ.out.2.2.2.2.trans (hb8.mono HQ.out.2.2.2.2.size)⟩

end Go.Proofs.YtejdbjfniepomaaFmt
