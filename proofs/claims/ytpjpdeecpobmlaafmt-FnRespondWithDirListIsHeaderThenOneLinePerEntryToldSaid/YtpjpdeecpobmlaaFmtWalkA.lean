/-
  The walk of the law that names add no tags to a listing: it returns true for every input, for whatever function answers fmt as fmt's texts say; conditions: the sizes that it names.
-/
import Derived.Test.YtpjpdeecpobmlaaFmtPag
import Derived.Test.YtpjpdeecpobmlaaFmtGrd
import Derived.Test.YtpjpdeecpobmlaaFmtMps
import Derived.Carry
namespace Go.Proofs.YtpjpdeecpobmlaaFmt
open Go.RowKit Go.Maps Go.Sort
open Go.Extern.Stop Go.Stop Go.Extern

/-- The strings' bytes. -/
def Bs (ss : List ByteArray) : List (List UInt8) := ss.map fun s => s.data.toList
theorem Bs_next {ss : List ByteArray} {k : Nat} {s : ByteArray} (h : ss[k]? = some s) : Bs (ss.take (k + 1)) = Bs (ss.take k) ++ [s.data.toList] := by
  obtain ⟨hk, rfl⟩ := List.getElem?_eq_some_iff.1 h
  unfold Bs
  rw [List.take_succ_eq_append_getElem hk, List.map_append]
  rfl
theorem Bs_all {ss : List ByteArray} {k : Nat} (h : ss.length ≤ k) : Bs (ss.take k) = Bs ss := by rw [List.take_of_length_le h]
theorem Bs_mem {ss : List ByteArray} {e : List UInt8} (h : e ∈ Bs ss) : e.length ≤ tot ss ∧ 0 < ss.length := by
  obtain ⟨s, hs, rfl⟩ := List.mem_map.1 h
  rw [← Lib.size_eq]
  exact ⟨tot_mem hs, List.length_pos_of_mem hs⟩

/-- The two maps under way: block b holds the set of ks, n stores; from B on nothing else. -/
def SetAt (b n : Nat) (ks : List (List UInt8)) (w : World) : Prop := ∃ D : DataW Unit, w.ownsMap Tryf.prog 9 (plainElem Tryf.prog 4) b n D ∧ HasI D ks
theorem SetAt.made (w : World) : SetAt w.heap.size 0 [] (w.alloc (.map #[] 0)) := ⟨_, World.ownsMap_made w Tryf.prog 9 _, HasI.empty⟩
theorem SetAt.alloc {b n : Nat} {ks : List (List UInt8)} {w : World} (h : SetAt b n ks w) (o : Obj) : SetAt b n ks (w.alloc o) := by
  obtain ⟨D, h1, h2⟩ := h
  exact ⟨D, h1.alloc o, h2⟩
theorem SetAt.kept {b n : Nat} {ks : List (List UInt8)} {w w' : World} {row : Option Nat} (h : SetAt b n ks w) (hg : w.grownBy w' row) (hne : some b ≠ row) : SetAt b n ks w' := by
  obtain ⟨D, h1, h2⟩ := h
  exact ⟨D, h1.kept hg hne, h2⟩
theorem own_isMap {w : World} {P : Program} {R : Value → Option (DataW Unit × List MemPlace)} {k : TypeId} {b n : Nat} {D : DataW Unit} (h : w.ownsMap P k R b n D) : IsMap D := by
  obtain ⟨es, rfl, _⟩ := h.keysOf
  exact ⟨es, rfl⟩
/-- 'm[s] = true'. -/
theorem SetAt.put {b n : Nat} {ks : List (List UInt8)} {w : World} (h : SetAt b n ks w) (hn : n < maxLen) (s : ByteArray) (hs : s.size ≤ maxLen) :
    ∃ w', (Instr.mapUpdate 25 (.map (some b)) (.string s) (.bool true)).run Tryf.prog w = .ok () w' ∧ SetAt b (n + 1) (ks ++ [s.data.toList]) w' ∧ w.grownBy w' (some b) := by
  obtain ⟨D, h1, h2⟩ := h
  obtain ⟨w', r, o, g⟩ := h1.update law9 Tryf.underlying25 hn (WideMaps.keyOf_string_mk (s := s) Tryf.underlying9 hs) (plainElem_bool Tryf.underlying4 true)
  exact ⟨w', r, ⟨_, o, h2.put (own_isMap h1) _ _⟩, g⟩
theorem SetAt.keys {b n : Nat} {ks : List (List UInt8)} {w : World} (h : SetAt b n ks w) : ∃ D : DataW Unit, w.ownsMap Tryf.prog 9 (plainElem Tryf.prog 4) b n D ∧ keysS D = sd ks ∧ Maps.size D = (sd ks).length ∧ Maps.size D ≤ n := by
  obtain ⟨D, h1, h2⟩ := h
  have e := keysS_eq h1 law9 Tryf.underlying9 h2
  exact ⟨D, h1, e, by rw [← e, keysS_len h1], h1.size_le⟩

set_option maxHeartbeats 1000000 in
theorem zpage_any (F : Interp) (q : ByteArray) (w : World) (hF : F.answers w.tape) (hS : Says F) (hq : q.size ≤ 4096) (b1 n1 b2 n2 : Nat) (D1 D2 : DataW Unit) (hM : Two w b1 n1 b2 n2 D1 D2 q.data.toList) :
    Calls Tryf.prog 7 #[.string q, .map (some b1), .map (some b2)] w (PageEnd (page q.data.toList (keysS D1) (keysS D2)) w) := by
  have hp := page_any F q w hF hS hq b1 n1 b2 n2 D1 D2 hM
  have HP := Lib.hid hp
  clear hp hM hF
  go_enter Tryf.func7, Tryf.ntmps7
  go_wp2_with fail
  refine HP.out.mono ?_
  rintro e w1 ⟨a, n, cap, rfl, h1, h2, h3⟩
  have H := Lib.hid (And.intro h1 (And.intro h2 h3))
  clear h1 h2 h3
  go_wp2_with fail
  go_ret
  exact ⟨_, _, _, rfl, H.out⟩

theorem keysS_nil : keysS (.map [] : DataW Unit) = [] := by simp [keysS, strKeys]

set_option maxHeartbeats 8000000 in
set_option maxRecDepth 100000 in
theorem fnRespondWithDirListNamesAddNoTags_walk (F : Interp) (q : ByteArray) (a1 : Option Addr) (l1 c1 : Nat) (ss : List ByteArray) (a2 : Option Addr) (l2 c2 : Nat) (ts : List ByteArray) (w : World) (hF : F.answers w.tape) (hS : Says F) (h1 : InRow w a1 l1 c1 (ss.map Value.string)) (h2 : InRow w a2 l2 c2 (ts.map Value.string)) (hs : ∀ s ∈ ss, s.size ≤ maxLen) (ht : ∀ s ∈ ts, s.size ≤ maxLen) (hq : q.size ≤ maxLen) :
    Calls Tryf.prog 3 #[.string q, .slice a1 l1 c1, .slice a2 l2 c2] w fun e w' => e = .returned (.bool true) ∧ Below w.heap.size w w' := by
  have hlen1 := h1.len
  have hlen2 := h2.len
  rw [List.length_map] at hlen1 hlen2
  have hcap1 := h1.cap
  have hcap2 := h2.cap
  have hmm := @run_makeMap Tryf.prog
  have HF := Lib.hid (And.intro hF hS)
  have H1 := Lib.hid h1
  have H2 := Lib.hid h2
  have HS := Lib.hid (And.intro hs ht)
  have HL := Lib.hid (And.intro hlen1 hlen2)
  clear h1 h2 hs ht hlen1 hlen2 hF hS
  unfold maxLen at hq hcap1 hcap2
  obtain ⟨hc1, hc2⟩ := hcap1
  obtain ⟨hc3, hc4⟩ := hcap2
  go_enter Tryf.func3, Tryf.ntmps3
  go_wp2_with fail
  refine (bytesA_any q a1 l1 c1 ss a2 l2 c2 ts w H1.out H2.out HS.out.1 HS.out.2 (by unfold maxLen; omega)).mono ?_
  rintro e w' ⟨b, rfl, rfl, hb⟩
  cases b
  · clear hb
    go_wp2_with fail
    go_ret
    exact ⟨rfl, Below.refl _ _⟩
  · have hb := hb rfl
    by_cases hq2 : q.size ≤ 4096
    · obtain ⟨t1, ht1⟩ : ∃ t, t = tot ss := ⟨_, rfl⟩
      obtain ⟨t2, ht2⟩ : ∃ t, t = tot ts := ⟨_, rfl⟩
      have HT := Lib.hid (And.intro ht1 ht2)
      have hsb1 := fun wx (h : InRow wx a1 l1 c1 (ss.map Value.string)) => strsBytes_any a1 l1 c1 ss wx h (by omega)
      have hsb2 := fun wx (h : InRow wx a2 l2 c2 (ts.map Value.string)) => strsBytes_any a2 l2 c2 ts wx h (by omega)
      rw [← ht1] at hsb1 hb
      rw [← ht2] at hsb2 hb
      have HSB := Lib.hid (And.intro hsb1 hsb2)
      clear hsb1 hsb2 ht1 ht2
      by_cases hsz : q.size + (16 * l1 + t1) + (16 * l2 + t2) ≤ 1048576
      · go_wp2_with fail
        refine (HSB.out.1 _ H1.out).mono ?_
        rintro e w' ⟨rfl, rfl⟩
        go_wp2_with fail
        refine (HSB.out.2 _ H2.out).mono ?_
        rintro e w' ⟨rfl, rfl⟩
        go_upto_block 0 with fail
        go_cut [] from 34 (fun wx => SetAt w.heap.size l1 (Bs ss) wx ∧ SetAt (w.heap.size + 1) 0 [] wx ∧ Below w.heap.size w wx)
        case first =>
          go_wp2_with fail
          go_loopw [9] (fun s9 wr => ∃ k : Nat, s9 = .int .i64 k ∧ k ≤ l1 ∧ SetAt w.heap.size k (Bs (ss.take k)) wr ∧ SetAt (w.heap.size + 1) 0 [] wr ∧ Below w.heap.size w wr) (fun s9 _ => l1 - (intOf s9).toNat)
          case atStart =>
            refine ⟨0, rfl, Nat.zero_le _, (SetAt.made w).alloc _, ?_, ((Below.refl _ _).alloc (Nat.le_refl _) _).alloc (by simp) _⟩
            have := SetAt.made (w.alloc (.map #[] 0))
            simpa using this
          case round =>
            obtain ⟨k, rfl, hk, hA, hB, hbw⟩ := hrel
            by_cases hlt : k < l1
            · obtain ⟨x, s, rfl, hsk, hc⟩ := (H1.out.up hbw).get hlt
              have hsm := HS.out.1 s (List.mem_of_getElem? hsk)
              obtain ⟨w2, hr, hA2, hg⟩ := hA.put (by unfold maxLen; omega) s hsm
              have hB2 := hB.kept hg (by simp)
              have hb2 := hbw.grown hg hbw.size (fun j hj => by cases hj; exact Nat.le_refl _)
              rw [← Bs_next hsk] at hA2
              have H := Lib.hid (And.intro hA2 (And.intro hB2 hb2))
              clear hA hB hbw hsk hsm hA2 hB2 hb2 hg
              go_wp2_with fail
              exact ⟨⟨k + 1, by go_num, by omega, H.out⟩, by simp [intOf]; omega⟩
            · obtain rfl : k = l1 := by omega
              rw [Bs_all (by have := HL.out.1; omega)] at hA
              have H := Lib.hid (And.intro hA (And.intro hB hbw))
              clear hA hB hbw
              go_wp2_with fail
              go_meet
              exact H.out
        case rest =>
          have R0 := Lib.hid hcut
          clear hcut
          go_upto_block 2 with fail
          go_cut [] from 45 (fun wx => SetAt w.heap.size l1 (Bs ss) wx ∧ SetAt (w.heap.size + 1) l2 (Bs ts) wx ∧ Below w.heap.size w wx)
          case first =>
            go_wp2_with fail
            go_loopw [10] (fun s9 wr => ∃ k : Nat, s9 = .int .i64 k ∧ k ≤ l2 ∧ SetAt w.heap.size l1 (Bs ss) wr ∧ SetAt (w.heap.size + 1) k (Bs (ts.take k)) wr ∧ Below w.heap.size w wr) (fun s9 _ => l2 - (intOf s9).toNat)
            case atStart => exact ⟨0, rfl, Nat.zero_le _, R0.out⟩
            case round =>
              obtain ⟨k, rfl, hk, hA, hB, hbw⟩ := hrel
              by_cases hlt : k < l2
              · obtain ⟨x, s, rfl, hsk, hc⟩ := (H2.out.up hbw).get hlt
                have hsm := HS.out.2 s (List.mem_of_getElem? hsk)
                obtain ⟨w2, hr, hB2, hg⟩ := hB.put (by unfold maxLen; omega) s hsm
                have hA2 := hA.kept hg (by simp)
                have hb2 := hbw.grown hg hbw.size (fun j hj => by cases hj; omega)
                rw [← Bs_next hsk] at hB2
                have H := Lib.hid (And.intro hA2 (And.intro hB2 hb2))
                clear hA hB hbw hsk hsm hA2 hB2 hb2 hg
                go_wp2_with fail
                exact ⟨⟨k + 1, by go_num, by omega, H.out⟩, by simp [intOf]; omega⟩
              · obtain rfl : k = l2 := by omega
                rw [Bs_all (by have := HL.out.2; omega)] at hB
                have H := Lib.hid (And.intro hA (And.intro hB hbw))
                clear hA hB hbw
                go_wp2_with fail
                go_meet
                exact H.out
          case rest =>
            obtain ⟨hA, hB, hbw⟩ := hcut
            obtain ⟨D1, hm1, hk1, hz1, hn1⟩ := hA.keys
            obtain ⟨D2, hm2, hk2, hz2, hn2⟩ := hB.keys
            have hTwo : Two wc w.heap.size l1 (w.heap.size + 1) l2 D1 D2 q.data.toList := ⟨by omega, hm1, hm2, fun e he => by
              rw [hk1, sd_mem] at he
              have h1 := Bs_mem he
              have h2 := HT.out.1
              have h3 := HL.out.1
              rw [← Lib.size_eq]
              omega, fun e he => by
              rw [hk2, sd_mem] at he
              have h1 := Bs_mem he
              have h2 := HT.out.2
              have h3 := HL.out.2
              rw [← Lib.size_eq]
              omega⟩
            have hpg := zpage_any F q wc (by rw [hbw.tape]; exact HF.out.1) HF.out.2 hq2 _ _ _ _ D1 D2 hTwo
            obtain ⟨z1, hz1'⟩ : ∃ z, z = Maps.size D1 := ⟨_, rfl⟩
            obtain ⟨z2, hz2'⟩ : ∃ z, z = Maps.size D2 := ⟨_, rfl⟩
            have hzz : z1 + z2 ≤ 65536 := by have := hTwo.hz; omega
            obtain ⟨T, hT⟩ : ∃ T, T = page q.data.toList (keysS D1) (keysS D2) := ⟨_, rfl⟩
            obtain ⟨U, hU⟩ : ∃ U, U = page q.data.toList [] [] := ⟨_, rfl⟩
            have hcnt : ∀ c : UInt8, c = 60 ∨ c = 62 → T.count c = U.count c + 4 * (z1 + z2) := by
              intro c hc
              rw [hT, hU, page_count _ _ _ c hc, page_count _ _ _ c hc, keysS_len hm1, keysS_len hm2, ← hz1', ← hz2']
              simp
            rw [← hT] at hpg
            have HR := Lib.hid (And.intro hpg (And.intro hm1 (And.intro hm2 (And.intro hbw (And.intro hz1' hz2')))))
            have HU := Lib.hid (And.intro hU hcnt)
            clear hpg hm1 hm2 hbw hk1 hk2 hz1 hz2 hn1 hn2 hTwo hT hU hcnt hA hB R0 hz1' hz2'
            go_wp2_with fail
            refine HR.out.1.mono ?_
            rintro e w1 ⟨ap, np, cp, rfl, hnp, hrp, hb1⟩
            have hm0 := World.ownsMap_made w1 Tryf.prog 9 (plainElem (H := Unit) Tryf.prog 4)
            have hb0 : Below w.heap.size w (w1.alloc (.map #[] 0)) := (HR.out.2.2.2.1.trans (hb1.mono HR.out.2.2.2.1.size)).alloc (Nat.le_trans HR.out.2.2.2.1.size hb1.size) _
            have hpg := zpage_any F q (w1.alloc (.map #[] 0)) (by rw [hb0.tape]; exact HF.out.1) HF.out.2 hq2 _ _ _ _ (.map []) (.map []) ⟨by decide, hm0, hm0, (fun e he => absurd (keysS_nil ▸ he) (by simp)), (fun e he => absurd (keysS_nil ▸ he) (by simp))⟩
            rw [keysS_nil, ← HU.out.1] at hpg
            have hg1 := (grown_of hb1)
            have HP := Lib.hid (And.intro hpg (And.intro hnp (And.intro (hrp.up ((Below.refl _ _).alloc (Nat.le_refl _) (.map #[] 0))) (And.intro hb0 (And.intro ((HR.out.2.1.kept hg1 (by simp)).alloc (.map #[] 0)) ((HR.out.2.2.1.kept hg1 (by simp)).alloc (.map #[] 0)))))))
            clear hpg hnp hrp hb0 hb1 hm0 hg1
            go_wp2_with fail
            refine HP.out.1.mono ?_
            rintro e w2 ⟨ae, ne, ce, rfl, hne, hre, hb2⟩
            have hg2 := grown_of hb2
            have HW := Lib.hid (And.intro hne (And.intro hre (And.intro (HP.out.2.2.1.up hb2) (And.intro (HP.out.2.2.2.1.trans (hb2.mono HP.out.2.2.2.1.size)) (And.intro (HP.out.2.2.2.2.1.kept hg2 (by simp)) (HP.out.2.2.2.2.2.kept hg2 (by simp)))))))
            clear hne hre hb2 hg2
            have hzD : Maps.size D1 + Maps.size D2 ≤ 65536 := by rw [← HR.out.2.2.2.2.1, ← HR.out.2.2.2.2.2]; exact hzz
            go_wp2_with (first
              | (at_len; refine wpList_len_own _ rfl _ 25 rfl 9 4 Tryf.underlying25 _ w.heap.size l1 _ rfl HW.out.2.2.2.2.1 ?_)
              | (at_len; refine wpList_len_own _ rfl _ 25 rfl 9 4 Tryf.underlying25 _ (w.heap.size + 1) l2 _ rfl HW.out.2.2.2.2.2 ?_))
            clear hzD
            rw [← HR.out.2.2.2.2.1, ← HR.out.2.2.2.2.2]
            have hcT := HU.out.2
            obtain ⟨Z, hZ⟩ : ∃ Z, Z = z1 + z2 := ⟨_, rfl⟩
            rw [← hZ] at hcT hzz
            rw [show ((z1 : Int) + (z2 : Int)) = (Z : Int) by omega]
            clear hZ
            have h60 := hcT 60 (.inl rfl)
            have h62 := hcT 62 (.inr rfl)
            have hT1 := fun wx (h : InRow wx ap np cp (bc T)) => count_any ap np cp T 60 wx h
            have hT2 := fun wx (h : InRow wx ap np cp (bc T)) => count_any ap np cp T 62 wx h
            have hU1 := fun wx (h : InRow wx ae ne ce (bc U)) => count_any ae ne ce U 60 wx h
            have hU2 := fun wx (h : InRow wx ae ne ce (bc U)) => count_any ae ne ce U 62 wx h
            have b3 : U.length ≤ 536870912 := by
              rw [HU.out.1]
              simp only [page, List.flatMap_nil, List.append_nil]
              exact headL_le _ (by rw [← Lib.size_eq]; exact hq2)
            have b1 : U.count 60 ≤ 536870912 := Nat.le_trans List.count_le_length b3
            have b2 : U.count 62 ≤ 536870912 := Nat.le_trans List.count_le_length b3
            obtain ⟨x1, hx1⟩ : ∃ x, x = U.count 60 := ⟨_, rfl⟩
            obtain ⟨x2, hx2⟩ : ∃ x, x = U.count 62 := ⟨_, rfl⟩
            obtain ⟨y1, hy1⟩ : ∃ x, x = T.count 60 := ⟨_, rfl⟩
            obtain ⟨y2, hy2⟩ : ∃ x, x = T.count 62 := ⟨_, rfl⟩
            rw [← hx1] at hU1 b1 h60
            rw [← hx2] at hU2 b2 h62
            rw [← hy1] at hT1 h60
            rw [← hy2] at hT2 h62
            have e60 : ((y1 : Int) == (x1 : Int) + 4 * (Z : Int)) = true := beq_iff_eq.2 (by omega)
            have e62 : ((y2 : Int) == (x2 : Int) + 4 * (Z : Int)) = true := beq_iff_eq.2 (by omega)
            have HC := Lib.hid (And.intro hT1 (And.intro hT2 (And.intro hU1 hU2)))
            clear hcT h60 h62 hT1 hT2 hU1 hU2 hx1 hx2 hy1 hy2 b3
            go_wp2_with fail
            refine (HC.out.1 _ HW.out.2.2.1).mono ?_
            rintro e w' ⟨rfl, rfl⟩
            go_wp2_with fail
            refine (HC.out.2.2.1 _ HW.out.2.1).mono ?_
            rintro e w' ⟨rfl, rfl⟩
            go_wp2_with fail
            refine (HC.out.2.1 _ HW.out.2.2.1).mono ?_
            rintro e w' ⟨rfl, rfl⟩
            go_wp2_with fail
            refine (HC.out.2.2.2 _ HW.out.2.1).mono ?_
            rintro e w' ⟨rfl, rfl⟩
            go_wp2_with fail
            go_ret
            exact ⟨by simp, HW.out.2.2.2.1⟩
      · go_wp2_with fail
        refine (HSB.out.1 _ H1.out).mono ?_
        rintro e w' ⟨rfl, rfl⟩
        go_wp2_with fail
        refine (HSB.out.2 _ H2.out).mono ?_
        rintro e w' ⟨rfl, rfl⟩
        go_wp2_with fail
        go_ret
        exact ⟨rfl, Below.refl _ _⟩
    · go_wp2_with fail
      go_ret
      exact ⟨rfl, Below.refl _ _⟩

end Go.Proofs.YtpjpdeecpobmlaaFmt
