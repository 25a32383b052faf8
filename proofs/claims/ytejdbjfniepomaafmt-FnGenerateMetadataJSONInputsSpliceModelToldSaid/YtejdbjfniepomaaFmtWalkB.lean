/-
  The walk of the law that the metafile is a head, the kept chunks joined, a tail: it returns true for every input; conditions: none (an input beyond the guards answers at once).
-/
import Derived.Test.YtejdbjfniepomaaFmtWalkA
import Derived.Test.YtejdbjfniepomaaFmtMark
namespace Go.Proofs.YtejdbjfniepomaaFmt
open Go.RowKit

theorem byte_is {a b : UInt8} (h : a = b) : ((a.toNat : Int) == (b.toNat : Int)) = true := by rw [h]; simp
theorem byte_no {a b : UInt8} (h : a ≠ b) : ((a.toNat : Int) == (b.toNat : Int)) = false := by
  rw [beq_eq_false_iff_ne]
  intro e
  exact h (UInt8.toNat_inj.1 (by omega))

set_option maxHeartbeats 1000000 in
theorem byteAt (s : ByteArray) (x : UInt8) (c : Int) (a b : List UInt8) (w : World) (hc : c = (x.toNat : Int)) (h : s.data.toList = a ++ x :: b) (ha : x ∉ a) (hs : s.size ≤ 1048576) :
    Calls Tryf.prog 14 #[.string s, .int .u8 c] w fun e w' => e = .returned (.int .i64 (a.length : Nat)) ∧ w = w' := by
  have hal : a.length < s.size := by
    have := congrArg List.length h
    rw [← Lib.size_eq, List.length_append, List.length_cons] at this
    omega
  have hget : ∀ k (hk : k < s.size) u, (a ++ x :: b)[k]? = some u → s[k]'hk = u := by
    intro k hk u hu
    have e := Lib.data_getElem? s k hk
    rw [h, hu] at e
    exact (Option.some.inj e).symm
  have HG := Lib.hid hget
  have HA := Lib.hid ha
  have HC := Lib.hid hc
  clear hget ha hc h
  go_enter Tryf.func14, Tryf.ntmps14
  go_wp2_with fail
  go_loop [5] (fun s5 => ∃ k : Nat, k ≤ a.length ∧ s5 = .int .i64 k) (fun s5 => a.length - (intOf s5).toNat)
  case atStart => exact ⟨0, Nat.zero_le _, rfl⟩
  case round =>
    obtain ⟨k, hk, rfl⟩ := hrel
    have hlt : k < s.size := by omega
    by_cases he : k = a.length
    · have q : ((s[k].toNat : Int) == c) = true := by
        rw [HC.out]
        refine byte_is (HG.out k hlt x ?_)
        subst he
        simp
      have hke : a.length = k := he.symm
      clear he
      go_wp2_with fail
      go_ret
      exact ⟨rfl, rfl⟩
    · have q : ((s[k].toNat : Int) == c) = false := by
        rw [HC.out]
        refine byte_no ?_
        rw [HG.out k hlt (a[k]'(by omega)) (by rw [List.getElem?_append_left (by omega), List.getElem?_eq_getElem])]
        intro e
        exact HA.out (e ▸ List.getElem_mem _)
      go_wp2_with fail
      go_round
      case rel => exact ⟨k + 1, by omega, by go_num⟩
      case measure => simp [intOf]; omega

theorem new_in {w : World} {t : TypeId} {vs : List Value} (cs : Array Value) (h : cs.toList = vs) (hl : vs.length ≤ maxLen) : InRow (w.alloc (.cells cs t)) (some ⟨w.heap.size, 0, none⟩) vs.length vs.length vs := by
  subst h
  exact row_in (f := fun i => cs.toList.getD i .nilIface) ⟨cs, heap_alloc_new w _, rfl, fun i hi => by show cs[i]? = some (cs.toList.getD i .nilIface); rw [List.getD_eq_getElem?_getD, Array.getElem?_toList, Array.getElem?_eq_getElem hi]; rfl⟩ hl rfl (fun i u hu => by rw [List.getD_eq_getElem?_getD, hu]; rfl)

theorem three {w : World} {t1 t2 t3 : TypeId} (x y z : Array Value) (hx : x.toList.length ≤ maxLen) (hy : y.toList.length ≤ maxLen) (hz : z.toList.length ≤ maxLen) :
    InRow (((w.alloc (.cells x t1)).alloc (.cells y t2)).alloc (.cells z t3)) (some ⟨w.heap.size, 0, none⟩) x.toList.length x.toList.length x.toList ∧
    InRow (((w.alloc (.cells x t1)).alloc (.cells y t2)).alloc (.cells z t3)) (some ⟨w.heap.size + 1, 0, none⟩) y.toList.length y.toList.length y.toList ∧
    InRow (((w.alloc (.cells x t1)).alloc (.cells y t2)).alloc (.cells z t3)) (some ⟨w.heap.size + 1 + 1, 0, none⟩) z.toList.length z.toList.length z.toList := by
  have e1 : (w.alloc (.cells x t1)).heap.size = w.heap.size + 1 := by simp
  have e2 : ((w.alloc (.cells x t1)).alloc (.cells y t2)).heap.size = w.heap.size + 1 + 1 := by simp
  have h2 := new_in (w := w.alloc (.cells x t1)) (t := t2) y rfl hy
  have h3 := new_in (w := (w.alloc (.cells x t1)).alloc (.cells y t2)) (t := t3) z rfl hz
  rw [e1] at h2
  rw [e2] at h3
  exact ⟨((new_in x rfl hx).up ((Below.refl _ _).alloc (Nat.le_refl _) _)).up ((Below.refl _ _).alloc (Nat.le_refl _) _), h2.up ((Below.refl _ _).alloc (Nat.le_refl _) _), h3⟩

def SpliceRel (K : List (List UInt8)) (w : World) (s17 s18 : Value) (wr : World) : Prop :=
  ∃ k : Nat, k ≤ K.length ∧ s18 = .int .i64 k ∧ BufM w.heap.size 5 s17 (preT ++ joined tNext (K.take k)) w wr

theorem joined_le (K : List (List UInt8)) (k : Nat) (h : 8 * K.length + sumLen K ≤ 1048576) : (preT ++ joined tNext (K.take k)).length ≤ 1048596 := by
  have h1 := joined_length tNext (K.take k)
  have h2 : sumLen (K.take k) ≤ sumLen K := by
    unfold sumLen
    conv => rhs; rw [← List.take_append_drop k K]
    rw [List.map_append, List.sum_append]
    omega
  have h3 : (K.take k).length ≤ K.length := by rw [List.length_take]; omega
  have h4 : tNext.length = 6 := rfl
  have h5 : preT.length = 20 := rfl
  rw [h4] at h1
  rw [List.length_append]
  omega

set_option maxHeartbeats 8000000 in
set_option maxRecDepth 100000 in
theorem fnGenerateMetadataJSONInputsSpliceModel_walk (a0 : Option Addr) (n c0 : Nat) (ss : List ByteArray) (a1 : Option Addr) (l1 c1 : Nat) (om : List Bool) (a2 : Option Addr) (l2 c2 : Nat) (zs : List Int) (w : World)
    (h0 : InRow w a0 n c0 (ss.map Value.string)) (hss : ∀ s ∈ ss, s.size ≤ maxLen) (h1 : InRow w a1 l1 c1 (om.map Value.bool)) (h2 : InRow w a2 l2 c2 (zs.map (Value.int .u32))) (hz : ∀ z ∈ zs, (Lit.int .u32 z).wf = true) :
    Calls Tryf.prog 4 #[.slice a0 n c0, .slice a1 l1 c1, .slice a2 l2 c2] w fun e w' => e = .returned (.bool true) ∧ Below w.heap.size w w' := by
  have p1 := Nat.le_trans h1.cap.1 h1.cap.2
  have p2 := Nat.le_trans h2.cap.1 h2.cap.2
  have H := Lib.hid (And.intro h0 (And.intro h1 h2))
  have HS := Lib.hid (And.intro hss hz)
  clear h0 h1 h2 hss hz
  obtain ⟨i5, hi, hz0, hz1, hz2⟩ := info_parts bld_byte
  have HI5 := Lib.hid (And.intro hi (And.intro hz0 (And.intro hz1 hz2)))
  clear hi hz0 hz1 hz2
  go_enter Tryf.func4, Tryf.ntmps4
  go_wp2_with fail
  refine (zz13_any a0 a1 a2 n c0 l1 c1 l2 c2 ss _ H.out.1 HS.out.1 p1 p2).mono ?_
  rintro e w' ⟨b, rfl, rfl, hb⟩
  cases b
  · go_wp2_with fail
    go_ret
    exact ⟨rfl, Below.refl _ _⟩
  have HSm := Lib.hid (hb rfl)
  clear hb
  go_wp2_with fail
  refine (zz6_any a0 a1 a2 n c0 l1 c1 l2 c2 ss _ H.out.1 HSm.out p1 p2).mono ?_
  rintro e w' ⟨b, rfl, rfl, hb⟩
  cases b
  · go_wp2_with fail
    go_ret
    exact ⟨rfl, Below.refl _ _⟩
  have hsz := hb rfl
  clear hb
  go_wp2_with fail
  refine (zz7_any a0 a1 a2 n c0 l1 c1 l2 c2 ss zs _ H.out.1 HSm.out H.out.2.2 HS.out.2 hsz).mono ?_
  rintro e w' ⟨b, rfl, rfl, hb⟩
  obtain ⟨q0, q1, q2⟩ := hsz
  cases b
  · go_wp2_with fail
    go_ret
    exact ⟨rfl, Below.refl _ _⟩
  obtain ⟨hl1, hin, hun⟩ := hb rfl
  subst hl1
  have HD := Lib.hid (And.intro hin hun)
  clear hb hin hun
  go_wp2_with fail
  refine (clone8 a0 l1 c0 ss _ H.out.1 (by omega)).mono ?_
  rintro e w1 ⟨A0, d0, rfl, hr0, hb1⟩
  have HC0 := Lib.hid (And.intro hr0 hb1)
  clear hr0 hb1
  go_wp2_with fail
  refine (clone9 a1 l1 c1 om _ (H.out.2.1.up HC0.out.2) (by omega)).mono ?_
  rintro e w2 ⟨A1, d1, rfl, hr1, hb2⟩
  have hB2 := HC0.out.2.trans (hb2.mono HC0.out.2.size)
  have HC1 := Lib.hid (And.intro (HC0.out.1.up hb2) (And.intro hr1 hB2))
  clear hr1 hb2 hB2
  go_wp2_with fail
  refine (clone10 a2 l2 c2 zs _ (H.out.2.2.up HC1.out.2.2) (by omega)).mono ?_
  rintro e w3 ⟨A2, d2, rfl, hr2, hb3⟩
  have hB3 := HC1.out.2.2.trans (hb3.mono HC1.out.2.2.size)
  have HC2 := Lib.hid (And.intro (HC1.out.1.up hb3) (And.intro (HC1.out.2.1.up hb3) (And.intro hr2 hB3)))
  clear hr2 hb3 hB3
  go_wp2_with fail
  refine (shim_any A0 A1 A2 l1 d0 d1 l2 d2 ss om zs _ HC2.out.1 HC2.out.2.1 HSm.out HC2.out.2.2.1 HS.out.2 HD.out.1 HD.out.2 q2 (by omega)).mono ?_
  rintro e w4 ⟨rfl, hb4⟩
  obtain ⟨K, hK⟩ : ∃ K, K = kept (lst ss) om (nat zs) := ⟨_, rfl⟩
  have hKl := kept_len (lst ss) om (nat zs)
  rw [← hK] at hKl ⊢
  have hB4 := HC2.out.2.2.2.trans (hb4.mono HC2.out.2.2.2.size)
  have HC3 := Lib.hid (And.intro (HC2.out.1.up hb4) (And.intro (HC2.out.2.1.up hb4) (And.intro (HC2.out.2.2.1.up hb4) hB4)))
  have HK := Lib.hid (And.intro hK hKl)
  have hKm : K.length ≤ 131072 := by have := HD.out.2; omega
  clear hb4 hB4 hKl hK
  go_wp2_with fail
  refine (kept_any A0 A1 A2 l1 d0 d1 l2 d2 ss om zs _ HC3.out.1 HC3.out.2.1 HSm.out HC3.out.2.2.1 HS.out.2 HD.out.1 HD.out.2 q2).mono ?_
  rintro e w5 ⟨A, cap, rfl, hr5, hb5⟩
  rw [← HK.out.1] at hr5 ⊢
  have hB5 := HC3.out.2.2.2.trans (hb5.mono HC3.out.2.2.2.size)
  have HC5 := Lib.hid (And.intro hr5 hB5)
  clear hr5 hb5 hB5
  by_cases hK0 : K.length = 0
  · have hk0 : ((K.length : Int) == 0) = true := by rw [hK0]; rfl
    obtain rfl : K = [] := List.eq_nil_of_length_eq_zero hK0
    clear hK0
    go_wp2_with fail
    refine (shim_any none none none 0 0 0 0 0 [] [] [] _ (InRow.nil _) (InRow.nil _) (by intro s hs; cases hs) (InRow.nil _) (by intro z hz; cases hz) (by intro z hz; cases hz) (by decide) (by decide) (by decide)).mono ?_
    rintro e w6 ⟨rfl, hb6⟩
    have e0 : kept (lst []) [] (nat []) = [] := rfl
    rw [e0]
    go_wp2_with fail
    go_ret
    exact ⟨by simp, HC5.out.2.trans (hb6.mono HC5.out.2.size)⟩
  have hk0 : ((K.length : Int) == 0) = false := by rw [beq_eq_false_iff_ne]; omega
  have hK1 : 0 < K.length := by omega
  clear hK0
  have hcv := fun (wx : World) (s : ByteArray) => run_bytes_of_string (P := Tryf.prog) wx 9 33 5 s Tryf.underlying9 Tryf.underlying33 Tryf.underlying5
  have hone := fun wx : World => three (w := wx) (t1 := 9) (t2 := 4) (t3 := 31) #[.string ⟨#[1]⟩] #[.bool false] #[.int .u32 0] (by decide) (by decide) (by decide)
  have HONE := Lib.hid hone
  clear hone
  go_wp2_with fail
  refine (shim_any (some ⟨w5.heap.size, 0, none⟩) (some ⟨w5.heap.size + 1, 0, none⟩) (some ⟨w5.heap.size + 1 + 1, 0, none⟩) 1 1 1 1 1 [⟨#[1]⟩] [false] [0] _ (HONE.out w5).1 (HONE.out w5).2.1 (by intro s hs; rw [List.mem_singleton] at hs; subst hs; decide) (HONE.out w5).2.2 (by intro z hz; rw [List.mem_singleton] at hz; subst hz; decide) (by intro z hz; rw [List.mem_singleton] at hz; subst hz; decide) (by decide) (by decide) (by decide)).mono ?_
  rintro e w6 ⟨rfl, hb6⟩
  obtain ⟨O, hO⟩ : ∃ O, S (metaText (kept (lst [⟨#[1]⟩]) [false] (nat [0]))) = O := ⟨_, rfl⟩
  have hOd : O.data.toList = preT ++ 1 :: postT := by rw [← hO, S_data]; rfl
  have hOs : O.size = 48 := by rw [Lib.size_eq, hOd]; rfl
  obtain ⟨PRE, hPRE⟩ : ∃ PRE, S preT = PRE := ⟨_, rfl⟩
  obtain ⟨POST, hPOST⟩ : ∃ POST, S postT = POST := ⟨_, rfl⟩
  obtain ⟨SEP, hSEP⟩ : ∃ SEP, S tNext = SEP := ⟨_, rfl⟩
  have o1 : O.extract 0 20 = PRE := by rw [extract_S, hOd, ← hPRE]; rfl
  have o2 : O.extract 21 48 = POST := by rw [extract_S, hOd, ← hPOST]; rfl
  have b6 : Below w.heap.size w w6 := by
    have hs5 := HC5.out.2.size
    exact (((HC5.out.2.alloc hs5 _).alloc (by simp; omega) _).alloc (by simp; omega) _).trans (hb6.mono (by simp; omega))
  have HO := Lib.hid (And.intro hOd (And.intro hPRE (And.intro hPOST (And.intro hSEP (And.intro (show w5.heap.size + 1 + 1 + 1 ≤ w6.heap.size by have := hb6.size; simpa using this) (And.intro b6 hb6))))))
  rw [hO]
  clear hO hOd hPRE hPOST hSEP b6 hb6
  go_wp2_with fail
  refine (byteAt O 1 _ preT postT _ rfl HO.out.1 (by decide) (by omega)).mono ?_
  rintro e w' ⟨rfl, rfl⟩
  have l20 : ((preT.length : Nat) : Int) = 20 := rfl
  rw [l20]
  have htwo := fun wx : World => three (w := wx) (t1 := 9) (t2 := 4) (t3 := 31) #[.string ⟨#[1]⟩, .string ⟨#[2]⟩] #[.bool false, .bool false] #[.int .u32 0, .int .u32 1] (by decide) (by decide) (by decide)
  have HTWO := Lib.hid htwo
  clear htwo
  go_wp2_with fail
  refine (shim_any (some ⟨w6.heap.size, 0, none⟩) (some ⟨w6.heap.size + 1, 0, none⟩) (some ⟨w6.heap.size + 1 + 1, 0, none⟩) 2 2 2 2 2 [⟨#[1]⟩, ⟨#[2]⟩] [false, false] [0, 1] _ (HTWO.out w6).1 (HTWO.out w6).2.1 (by intro s hs; simp at hs; rcases hs with rfl | rfl <;> decide) (HTWO.out w6).2.2 (by intro z hz; simp at hz; rcases hz with rfl | rfl <;> decide) (by intro z hz; simp at hz; rcases hz with rfl | rfl <;> decide) (by decide) (by decide) (by decide)).mono ?_
  rintro e w7 ⟨rfl, hb7⟩
  obtain ⟨T, hT⟩ : ∃ T, S (metaText (kept (lst [⟨#[1]⟩, ⟨#[2]⟩]) [false, false] (nat [0, 1]))) = T := ⟨_, rfl⟩
  have hTd : T.data.toList = preT ++ 1 :: (tNext ++ 2 :: postT) := by rw [← hT, S_data]; rfl
  have hTe : T.data.toList = (preT ++ 1 :: tNext) ++ 2 :: postT := by rw [← hT, S_data]; rfl
  have hTs : T.size = 55 := by rw [Lib.size_eq, hTd]; rfl
  have t1 : T.extract 0 20 = PRE := by rw [extract_S, hTd, ← HO.out.2.1]; rfl
  have t2 : T.extract 28 55 = POST := by rw [extract_S, hTd, ← HO.out.2.2.1]; rfl
  have t3 : T.extract 21 27 = SEP := by rw [extract_S, hTd, ← HO.out.2.2.2.1]; rfl
  have hPs : PRE.size = 20 := by rw [← HO.out.2.1]; rfl
  have b7 : Below w.heap.size w w7 := by
    have hs6 := HO.out.2.2.2.2.2.1.size
    exact (((HO.out.2.2.2.2.2.1.alloc hs6 _).alloc (by simp; omega) _).alloc (by simp; omega) _).trans (hb7.mono (by simp; omega))
  have k7 : InRow w7 A K.length cap ((K.map S).map Value.string) := by
    have k6 := (((HC5.out.1.up ((Below.refl _ _).alloc (Nat.le_refl _) (.cells #[.string ⟨#[1]⟩] 9))).up ((Below.refl _ _).alloc (Nat.le_refl _) (.cells #[.bool false] 4))).up ((Below.refl _ _).alloc (Nat.le_refl _) (.cells #[.int .u32 0] 31))).up HO.out.2.2.2.2.2.2
    exact (((k6.up ((Below.refl _ _).alloc (Nat.le_refl _) (.cells #[.string ⟨#[1]⟩, .string ⟨#[2]⟩] 9))).up ((Below.refl _ _).alloc (Nat.le_refl _) (.cells #[.bool false, .bool false] 4))).up ((Below.refl _ _).alloc (Nat.le_refl _) (.cells #[.int .u32 0, .int .u32 1] 31))).up hb7
  have HT := Lib.hid (And.intro hTd (And.intro hTe (And.intro b7 k7)))
  rw [hT]
  clear hT hTd hTe b7 k7 hb7
  go_wp2_with fail
  refine (byteAt T 1 _ preT (tNext ++ 2 :: postT) _ rfl HT.out.1 (by decide) (by omega)).mono ?_
  rintro e w' ⟨rfl, rfl⟩
  rw [l20]
  go_wp2_with fail
  refine (byteAt T 2 _ (preT ++ 1 :: tNext) postT _ rfl HT.out.2.1 (by decide) (by omega)).mono ?_
  rintro e w' ⟨rfl, rfl⟩
  have l27 : (((preT ++ 1 :: tNext).length : Nat) : Int) = 27 := rfl
  rw [l27]
  have hmade := BufM.made w7 5 PRE (by rw [hPs]; decide)
  rw [hPs, ← HO.out.2.1, S_data, HO.out.2.1] at hmade
  have HM := Lib.hid hmade
  have KL : 8 * K.length + sumLen K ≤ 1048576 := Nat.le_trans HK.out.2 HD.out.2
  have HKL := Lib.hid KL
  have hss : SEP.size = 6 := by rw [← HO.out.2.2.2.1]; rfl
  have hps : POST.size = 27 := by rw [← HO.out.2.2.1]; rfl
  clear hmade KL l20 l27
  go_wp2_with fail
  go_loopw [17, 18] (fun s17 s18 wr => SpliceRel K w7 s17 s18 wr) (fun _ s18 _ => K.length - (intOf s18).toNat)
  case atStart => exact ⟨0, Nat.zero_le _, rfl, HM.out⟩
  case round =>
    obtain ⟨k, hk, rfl, hbuf⟩ := hrel
    have hle := joined_le K k HKL.out
    have HBF := Lib.hid hbuf
    by_cases hlt : k < K.length
    · obtain ⟨x, s, rfl, hsk, hc7⟩ := HT.out.2.2.2.get hlt
      have hup : ∀ wx, Below w7.heap.size w7 wx → wx.cell? (x.add k) = some (.string s) := fun wx h => by
        rw [h.cell (p := x.add k) (World.block_lt_of_cell? w7 _ hc7)]
        exact hc7
      have hc := hup _ hbuf.below
      have HUP := Lib.hid hup
      have hsK : s = S K[k] := by
        rw [List.getElem?_map, List.getElem?_eq_getElem hlt] at hsk
        exact (Option.some.inj hsk).symm
      have hsz : s.size ≤ 1048576 := by
        rw [hsK, S_size]
        have := len_le_sum K K[k] (List.getElem_mem _)
        have := HKL.out
        omega
      have HSK := Lib.hid hsK
      clear hsk hbuf hsK hup hc7
      by_cases h0 : k = 0
      · have hd : k ≤ 0 := by omega
        have H0 := Lib.hid h0
        clear h0
        go_wp2_with (at_builtin; refine bufM_text rfl (.tmp 115) _ 33 9 rfl w7.heap.size 5 i5 Tryf.underlying33 Tryf.underlying9 HI5.out.1 HI5.out.2.1 HI5.out.2.2.1 HI5.out.2.2.2 _ _ rfl w7 HBF.out _ rfl (by omega) ?_; intro v' w' hb'; clear HBF)
        refine ⟨⟨k + 1, by omega, by go_num, ?_⟩, by simp [intOf]; omega⟩
        rw [joined_take hlt, if_pos H0.out, List.append_nil]
        have e : s.data.toList = K[k] := by rw [HSK.out, S_data]
        rw [e] at hb'
        simpa [List.append_assoc] using hb'
      · have h0' : 0 < k := by omega
        have hsl : SEP.data.toList.length = 6 := by rw [← Lib.size_eq]; exact hss
        go_upto_region 34 with (at_builtin; refine bufM_text rfl (.tmp 112) _ 33 9 rfl w7.heap.size 5 i5 Tryf.underlying33 Tryf.underlying9 HI5.out.1 HI5.out.2.1 HI5.out.2.2.1 HI5.out.2.2.2 _ _ rfl w7 HBF.out _ rfl (by omega) ?_; intro v1 w1' hb1'; have HB1 := Lib.hid hb1'; have c1' := HUP.out _ hb1'.below; clear hb1')
        have hl2 : (preT ++ joined tNext (K.take k) ++ SEP.data.toList).length + s.size ≤ 140737488355328 := by rw [List.length_append]; omega
        clear hc
        go_wp2_with (at_builtin; refine bufM_text rfl (.tmp 115) _ 33 9 rfl w7.heap.size 5 i5 Tryf.underlying33 Tryf.underlying9 HI5.out.1 HI5.out.2.1 HI5.out.2.2.1 HI5.out.2.2.2 _ _ rfl w7 HB1.out _ rfl hl2 ?_; intro v' w' hb'; clear HB1)
        refine ⟨⟨k + 1, by omega, by go_num, ?_⟩, by simp [intOf]; omega⟩
        rw [joined_take hlt, if_neg h0]
        have e : s.data.toList = K[k] := by rw [HSK.out, S_data]
        have e2 : SEP.data.toList = tNext := by rw [← HO.out.2.2.2.1, S_data]
        rw [e, e2] at hb'
        simpa [List.append_assoc] using hb'
    · obtain rfl : k = K.length := by omega
      rw [List.take_length] at hbuf hle
      have HBG := Lib.hid hbuf
      have hps2 : POST.size ≤ 100 := by omega
      clear hbuf HBF
      go_wp2_with (at_builtin; refine bufM_text rfl (.tmp 121) _ 33 9 rfl w7.heap.size 5 i5 Tryf.underlying33 Tryf.underlying9 HI5.out.1 HI5.out.2.1 HI5.out.2.2.1 HI5.out.2.2.2 _ _ rfl w7 HBG.out _ rfl (by omega) ?_; intro v' w' hb'; have HBE := Lib.hid hb'; have hconv := hb'.convert (P := Tryf.prog) 33 9 Tryf.underlying33 Tryf.underlying5 Tryf.underlying9; clear hb')
      have hfin : S (metaText K) = S (preT ++ joined tNext K ++ POST.data.toList) := by
        have e2 : POST.data.toList = postT := by rw [← HO.out.2.2.1, S_data]
        rw [e2]
        obtain ⟨c, r, hcr⟩ : ∃ c r, K = c :: r := by
          cases hKc : K with
          | nil => rw [hKc] at hK1; exact absurd hK1 (by decide)
          | cons c r => exact ⟨c, r, rfl⟩
        rw [hcr, meta_cons]
      go_ret
      refine ⟨?_, HT.out.2.2.1.trans (HBE.out.below.mono HT.out.2.2.1.size)⟩
      show Ending.returned (.bool ((S (metaText K)).toList == (S (preT ++ (joined tNext K ++ POST.data.toList))).toList)) = _
      rw [hfin, List.append_assoc]
      simp

end Go.Proofs.YtejdbjfniepomaaFmt
