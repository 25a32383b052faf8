/-
  The walk of the law that a listing is a header and then one line an entry: it returns true for every input, for whatever function answers fmt as fmt's texts say; conditions: the sizes that it names.
-/
import Derived.Test.YtpjpdeecpobmlaaFmtWalkA
import Derived.Test.YtpjpdeecpobmlaaFmtSrt
import Derived.Test.YtpjpdeecpobmlaaFmtBeq
namespace Go.Proofs.YtpjpdeecpobmlaaFmt
open Go.RowKit Go.Maps Go.Sort
open Go.Extern.Stop Go.Stop Go.Extern

theorem infoB : (Tryf.prog.info? 5).map (fun i => (i.zero, i.size, i.bytes)) = some (some (.int .u8 0), 1, 1) := by kernel_rfl
theorem inrow_some {w : World} {a : Option Addr} {n cap : Nat} {vs : List Value} (h : InRow w a n cap vs) (h0 : 0 < n) : ∃ x, a = some x := by
  rcases h with ⟨_, h1, _⟩ | ⟨x, h1, _⟩
  · omega
  · exact ⟨x, h1⟩
theorem srow_grown {B n : Nat} {w w' : World} {g : Nat} {ps : LB} {v : Value} {xs : List Value} (h : SRow w g ps) (ho : w.ownsRow B 5 1 v n xs) (hg : w.grownBy w' v.ownBlock) : SRow w' g ps := by
  have hl := h.lt
  obtain ⟨cur, h1, h2⟩ := h
  refine ⟨cur, (hg.block g hl ?_).trans h1, h2⟩
  intro e
  obtain ⟨c, fz, hc⟩ := ownsRow_kind ho g e.symm
  rw [h1] at hc
  cases hc
theorem page_le (q : List UInt8) (ds fs : LB) (hq : q.length ≤ 4096) (hd : ∀ e ∈ ds, e.length + q.length + 16 ≤ 1048576) (hf : ∀ e ∈ fs, e.length + q.length + 16 ≤ 1048576) : (page q ds fs).length ≤ 536870912 + (ds.length + fs.length) * 16777216 := by
  have h1 := headL_le q hq
  have h2 := flat_le (lineD q) 16777216 ds (fun e he => lineD_le q e (by have := hd e he; omega))
  have h3 := flat_le (lineF q) 16777216 fs (fun e he => lineF_le q e (by have := hf e he; omega))
  simp only [page, List.length_append]
  omega
theorem sd_one (x : List UInt8) : sd ([] ++ [x]) = [x] := by simp [sd, ddup]
theorem page_one_d (q x : List UInt8) : page q [x] [] = page q [] [] ++ lineD q x := by simp [page]
theorem page_one_f (q x : List UInt8) : page q [] [x] = page q [] [] ++ lineF q x := by simp [page]
theorem lineD_pos (q x : List UInt8) : 0 < (lineD q x).length := by simp only [lineD, lineD2, d0, List.length_append, List.length_cons]; omega
theorem lineF_pos (q x : List UInt8) : 0 < (lineF q x).length := by simp only [lineF, lineF2, f0, List.length_append, List.length_cons]; omega
theorem bc_one (l : List UInt8) : ∀ u ∈ bc l, u.oneCell' = true := by
  intro u hu
  obtain ⟨b, _, rfl⟩ := List.mem_map.1 hu
  rfl
theorem add_add (x : Addr) (a b : Nat) : (x.add a).add b = x.add (a + b) := by
  obtain ⟨bk, off, s⟩ := x
  unfold Addr.add
  cases a with
  | zero => simp
  | succ a =>
    cases b with
    | zero => simp
    | succ b => simp <;> omega
theorem tail_cells {w : World} {x : Addr} {n cap m : Nat} {u l : List UInt8} (h : InRow w (some x) n cap (bc (u ++ l))) (hm : m = u.length) : ∀ j v, (bc l)[j]? = some v → w.cell? ((x.add m).add j) = some v := by
  intro j v hv
  rw [add_add]
  rcases h with ⟨h, _⟩ | ⟨y, h1, _, _, _, h5⟩
  · cases h
  · cases h1
    refine h5 (m + j) v ?_
    rw [bc_append, List.getElem?_append_right (by rw [bc_length]; omega), bc_length, hm, Nat.add_sub_cancel_left]
    exact hv
theorem inrow_cells {w : World} {x : Addr} {n cap : Nat} {vs : List Value} (h : InRow w (some x) n cap vs) : ∀ j u, vs[j]? = some u → w.cell? (x.add j) = some u := by
  rcases h with ⟨h, _⟩ | ⟨y, h1, _, _, _, h5⟩
  · cases h
  · cases h1
    exact h5

set_option maxHeartbeats 8000000 in
set_option maxRecDepth 100000 in
theorem fnRespondWithDirListIsHeaderThenOneLinePerEntry_walk (F : Interp) (q : ByteArray) (a1 : Option Addr) (l1 c1 : Nat) (ss : List ByteArray) (a2 : Option Addr) (l2 c2 : Nat) (ts : List ByteArray) (w : World) (hF : F.answers w.tape) (hS : Says F) (h1 : InRow w a1 l1 c1 (ss.map Value.string)) (h2 : InRow w a2 l2 c2 (ts.map Value.string)) (hs : ∀ s ∈ ss, s.size ≤ maxLen) (ht : ∀ s ∈ ts, s.size ≤ maxLen) (hq : q.size ≤ maxLen) :
    Calls Tryf.prog 4 #[.string q, .slice a1 l1 c1, .slice a2 l2 c2] w fun e w' => e = .returned (.bool true) ∧ Below w.heap.size w w' := by
  obtain ⟨i0, hi, hz0, hz1, hz2⟩ := info_parts infoB
  have HI := Lib.hid (And.intro hi (And.intro hz0 (And.intro hz1 hz2)))
  clear hi hz0 hz1 hz2
  have hlen1 := h1.len
  have hlen2 := h2.len
  rw [List.length_map] at hlen1 hlen2
  have hcap1 := h1.cap
  have hcap2 := h2.cap
  have hmm := @run_makeMap Tryf.prog
  have HF := Lib.hid (And.intro hF hS)
  have H1 := Lib.hid h1
  have H2 := Lib.hid h2
  have HS := Lib.hid (And.intro hs ht)
  have HL := Lib.hid (And.intro hlen1 hlen2)
  clear h1 h2 hs ht hlen1 hlen2 hF hS
  unfold maxLen at hq hcap1 hcap2
  obtain ⟨hc1, hc2⟩ := hcap1
  obtain ⟨hc3, hc4⟩ := hcap2
  go_enter Tryf.func4, Tryf.ntmps4
  go_wp2_with fail
  refine (bytesB_any q a1 l1 c1 ss a2 l2 c2 ts w H1.out H2.out HS.out.1 HS.out.2 (by unfold maxLen; omega)).mono ?_
  rintro e w' ⟨b, rfl, rfl, hb⟩
  cases b
  · clear hb
    go_wp2_with fail
    go_ret
    exact ⟨rfl, Below.refl _ _⟩
  · have hb := hb rfl
    by_cases hq2 : q.size ≤ 256
    · by_cases hll : ¬ l1 + l2 ≤ 4096
      · go_wp2_with fail
        go_ret
        exact ⟨rfl, Below.refl _ _⟩
      have hll : l1 + l2 ≤ 4096 := by omega
      obtain ⟨t1, ht1⟩ : ∃ t, t = tot ss := ⟨_, rfl⟩
      obtain ⟨t2, ht2⟩ : ∃ t, t = tot ts := ⟨_, rfl⟩
      have HT := Lib.hid (And.intro ht1 ht2)
      have hsb1 := fun wx (h : InRow wx a1 l1 c1 (ss.map Value.string)) => strsBytes_any a1 l1 c1 ss wx h (by omega)
      have hsb2 := fun wx (h : InRow wx a2 l2 c2 (ts.map Value.string)) => strsBytes_any a2 l2 c2 ts wx h (by omega)
      rw [← ht1] at hsb1 hb
      rw [← ht2] at hsb2 hb
      have HSB := Lib.hid (And.intro hsb1 hsb2)
      clear hsb1 hsb2 ht1 ht2
      by_cases hsz : q.size + (16 * l1 + t1) + (16 * l2 + t2) ≤ 1048576
      · go_wp2_with fail
        refine (HSB.out.1 _ H1.out).mono ?_
        rintro e w' ⟨rfl, rfl⟩
        go_wp2_with fail
        refine (HSB.out.2 _ H2.out).mono ?_
        rintro e w' ⟨rfl, rfl⟩
        go_upto_block 0 with fail
        go_cut [] from 46 (fun wx => SetAt w.heap.size l1 (Bs ss) wx ∧ SetAt (w.heap.size + 1) 0 [] wx ∧ Below w.heap.size w wx)
        case first =>
          go_wp2_with fail
          go_loopw [9] (fun s9 wr => ∃ k : Nat, s9 = .int .i64 k ∧ k ≤ l1 ∧ SetAt w.heap.size k (Bs (ss.take k)) wr ∧ SetAt (w.heap.size + 1) 0 [] wr ∧ Below w.heap.size w wr) (fun s9 _ => l1 - (intOf s9).toNat)
          case atStart =>
            refine ⟨0, rfl, Nat.zero_le _, (SetAt.made w).alloc _, ?_, ((Below.refl _ _).alloc (Nat.le_refl _) _).alloc (by simp) _⟩
            have := SetAt.made (w.alloc (.map #[] 0))
            simpa using this
          case round =>
            obtain ⟨k, rfl, hk, hA, hB, hbw⟩ := hrel
            by_cases hlt : k < l1
            · obtain ⟨x, s, rfl, hsk, hc⟩ := (H1.out.up hbw).get hlt
              have hsm := HS.out.1 s (List.mem_of_getElem? hsk)
              obtain ⟨w2, hr, hA2, hg⟩ := hA.put (by unfold maxLen; omega) s hsm
              have hB2 := hB.kept hg (by simp)
              have hb2 := hbw.grown hg hbw.size (fun j hj => by cases hj; exact Nat.le_refl _)
              rw [← Bs_next hsk] at hA2
              have H := Lib.hid (And.intro hA2 (And.intro hB2 hb2))
              clear hA hB hbw hsk hsm hA2 hB2 hb2 hg
              go_wp2_with fail
              exact ⟨⟨k + 1, by go_num, by omega, H.out⟩, by simp [intOf]; omega⟩
            · obtain rfl : k = l1 := by omega
              rw [Bs_all (by have := HL.out.1; omega)] at hA
              have H := Lib.hid (And.intro hA (And.intro hB hbw))
              clear hA hB hbw
              go_wp2_with fail
              go_meet
              exact H.out
        case rest =>
          have R0 := Lib.hid hcut
          clear hcut
          go_upto_block 2 with fail
          go_cut [] from 57 (fun wx => SetAt w.heap.size l1 (Bs ss) wx ∧ SetAt (w.heap.size + 1) l2 (Bs ts) wx ∧ Below w.heap.size w wx)
          case first =>
            go_wp2_with fail
            go_loopw [10] (fun s9 wr => ∃ k : Nat, s9 = .int .i64 k ∧ k ≤ l2 ∧ SetAt w.heap.size l1 (Bs ss) wr ∧ SetAt (w.heap.size + 1) k (Bs (ts.take k)) wr ∧ Below w.heap.size w wr) (fun s9 _ => l2 - (intOf s9).toNat)
            case atStart => exact ⟨0, rfl, Nat.zero_le _, R0.out⟩
            case round =>
              obtain ⟨k, rfl, hk, hA, hB, hbw⟩ := hrel
              by_cases hlt : k < l2
              · obtain ⟨x, s, rfl, hsk, hc⟩ := (H2.out.up hbw).get hlt
                have hsm := HS.out.2 s (List.mem_of_getElem? hsk)
                obtain ⟨w2, hr, hB2, hg⟩ := hB.put (by unfold maxLen; omega) s hsm
                have hA2 := hA.kept hg (by simp)
                have hb2 := hbw.grown hg hbw.size (fun j hj => by cases hj; omega)
                rw [← Bs_next hsk] at hB2
                have H := Lib.hid (And.intro hA2 (And.intro hB2 hb2))
                clear hA hB hbw hsk hsm hA2 hB2 hb2 hg
                go_wp2_with fail
                exact ⟨⟨k + 1, by go_num, by omega, H.out⟩, by simp [intOf]; omega⟩
              · obtain rfl : k = l2 := by omega
                rw [Bs_all (by have := HL.out.2; omega)] at hB
                have H := Lib.hid (And.intro hA (And.intro hB hbw))
                clear hA hB hbw
                go_wp2_with fail
                go_meet
                exact H.out
          case rest =>
            obtain ⟨hA, hB, hbw⟩ := hcut
            obtain ⟨D1, hm1, hk1, hz1, hn1⟩ := hA.keys
            obtain ⟨D2, hm2, hk2, hz2, hn2⟩ := hB.keys
            have hd1 : ∀ e ∈ sd (Bs ss), e.length + q.data.toList.length + 16 ≤ 1048576 := fun e he => by
              rw [sd_mem] at he
              have h1 := Bs_mem he
              have h2 := HT.out.1
              have h3 := HL.out.1
              rw [← Lib.size_eq]
              omega
            have hd2 : ∀ e ∈ sd (Bs ts), e.length + q.data.toList.length + 16 ≤ 1048576 := fun e he => by
              rw [sd_mem] at he
              have h1 := Bs_mem he
              have h2 := HT.out.2
              have h3 := HL.out.2
              rw [← Lib.size_eq]
              omega
            have hTwo : Two wc w.heap.size l1 (w.heap.size + 1) l2 D1 D2 q.data.toList := ⟨by omega, hm1, hm2, fun e he => hd1 e (by rw [← hk1]; exact he), fun e he => hd2 e (by rw [← hk2]; exact he)⟩
            have hpg := zpage_any F q wc (by rw [hbw.tape]; exact HF.out.1) HF.out.2 (by omega) _ _ _ _ D1 D2 hTwo
            rw [hk1, hk2] at hpg
            obtain ⟨Q, hQ⟩ : ∃ Q, Q = q.data.toList := ⟨_, rfl⟩
            have hQl : Q.length ≤ 256 := by rw [hQ, ← Lib.size_eq]; exact hq2
            rw [← hQ] at hpg hd1 hd2
            obtain ⟨ds, hds⟩ : ∃ d, d = sd (Bs ss) := ⟨_, rfl⟩
            obtain ⟨fs, hfs⟩ : ∃ d, d = sd (Bs ts) := ⟨_, rfl⟩
            rw [← hds] at hd1 hz1 hpg
            rw [← hfs] at hd2 hz2 hpg
            have hdl : ds.length ≤ 4096 := by omega
            have hfl : fs.length ≤ 4096 := by omega
            obtain ⟨T, hT⟩ : ∃ T, T = page Q ds fs := ⟨_, rfl⟩
            obtain ⟨U, hU⟩ : ∃ U, U = page Q [] [] := ⟨_, rfl⟩
            have hTl : T.length ≤ 1099511627776 := by
              have := page_le Q ds fs (by omega) hd1 hd2
              rw [hT]
              omega
            rw [← hT] at hpg
            have HR := Lib.hid (And.intro hpg hbw)
            have HU := Lib.hid (And.intro hU (And.intro hT (And.intro hQ (And.intro hds hfs))))
            have HD := Lib.hid (And.intro hd1 hd2)
            clear hpg hm1 hm2 hbw hk1 hk2 hz1 hz2 hn1 hn2 hTwo hT hU hA hB R0 hQ hds hfs hd1 hd2
            go_wp2_with fail
            refine HR.out.1.mono ?_
            rintro e w1 ⟨ap, np, cp, rfl, hnp, hrp, hb1⟩
            have hm0 := World.ownsMap_made w1 Tryf.prog 9 (plainElem (H := Unit) Tryf.prog 4)
            have hb0 : Below w.heap.size w (w1.alloc (.map #[] 0)) := (HR.out.2.trans (hb1.mono HR.out.2.size)).alloc (Nat.le_trans HR.out.2.size hb1.size) _
            have hpg := zpage_any F q (w1.alloc (.map #[] 0)) (by rw [hb0.tape]; exact HF.out.1) HF.out.2 (by omega) _ _ _ _ (.map []) (.map []) ⟨by decide, hm0, hm0, (fun e he => absurd (keysS_nil ▸ he) (by simp)), (fun e he => absurd (keysS_nil ▸ he) (by simp))⟩
            rw [keysS_nil, ← HU.out.2.2.1, ← HU.out.1] at hpg
            have HP := Lib.hid (And.intro hpg (And.intro hnp (And.intro (hrp.up ((Below.refl _ _).alloc (Nat.le_refl _) (.map #[] 0))) (And.intro hb0 hm0))))
            have hnpl : np ≤ 1099511627776 := by rw [hnp]; exact hTl
            clear hpg hnp hrp hb0 hb1 hm0
            go_wp2_with fail
            refine HP.out.1.mono ?_
            rintro e W1 ⟨ae, ne, ce, rfl, hne, hre, hb2⟩
            obtain ⟨b0, hb0⟩ : ∃ b, b = w1.heap.size := ⟨_, rfl⟩
            have hm0 := HP.out.2.2.2.2.kept (grown_of hb2) (by simp)
            rw [← hb0] at hm0 ⊢
            have hUl : U.length ≤ 536870912 := by
              rw [HU.out.1]
              simp only [page, List.flatMap_nil, List.append_nil]
              exact headL_le _ (by omega)
            have hU0 : 0 < U.length := by
              rw [HU.out.1]
              simp only [page, headL, List.flatMap_nil, List.append_nil, k19, List.length_append, List.length_cons]
              omega
            obtain ⟨xe, rfl⟩ := inrow_some hre (by omega)
            have hnel : ne ≤ 536870912 := by omega
            have HW := Lib.hid (And.intro hne (And.intro hre (And.intro (HP.out.2.2.1.up hb2) (And.intro (HP.out.2.2.2.1.trans (hb2.mono HP.out.2.2.2.1.size)) hm0))))
            have HN := Lib.hid HP.out.2.1
            clear hne hre hb2 hm0 hb0
            go_upto_region 24 with (first
              | (at_make; refine wpList_make_own _ rfl _ _ 26 rfl W1.heap.size 5 i0 (.int .u8 0) 1 Tryf.underlying26 HI.out.1 HI.out.2.1 HI.out.2.2.1 _ _ _ np rfl rfl rfl (by rw [HI.out.2.2.2]; omega) (by unfold maxLen; omega) (Nat.le_refl _) ?_; intro w4 hown4 hg4)
              | (at_builtin; refine wpList_append_own _ rfl _ _ 26 rfl W1.heap.size 5 i0 (.int .u8 0) 1 1 Tryf.underlying26 HI.out.1 HI.out.2.1 HI.out.2.2.1 HI.out.2.2.2 rfl (by decide) _ _ _ rfl hown4 xe ne ce (bc U) rfl (by rw [bc_length, ← HW.out.1, Nat.mul_one]) (inrow_cells (HW.out.2.1.up (below_of hg4))) (bc_one U) (by unfold maxLen; omega) (by omega) hg4.size ?_; intro v5 w5 hown5 hg5 hnil5; go_frame))
            have RA := Lib.hid (And.intro (show w5.ownsRow W1.heap.size 5 1 v5 U.length (bc U) by have := hown5; rw [Nat.zero_add, List.nil_append, HW.out.1] at this; exact this) (((Below.refl W1.heap.size W1).grown hg4 (Nat.le_refl _) (fun k hk => by cases hk)).grown hg5 hg4.size (fun k hk => (hown4.lt k hk).1)))
            have HACC := Lib.hid hUl
            clear hown5 hg5 hnil5 hown4 hg4
            go_wp2_with fail
            refine (sorted_any a1 l1 c1 ss (Bs ss) _ (H1.out.up (HW.out.2.2.2.1.trans (RA.out.2.mono HW.out.2.2.2.1.size))) rfl (by omega)).mono ?_
            rintro e w6 ⟨gd, cd, rfl, hS, hb6⟩
            rw [← HU.out.2.2.2.1] at hS ⊢
            have RB := Lib.hid (And.intro (RA.out.1.kept (grown_of hb6) (Classical.em _)) (And.intro hS (RA.out.2.trans (hb6.mono RA.out.2.size))))
            clear hS hb6 RA
            obtain ⟨nd, hnd⟩ : ∃ n, n = ds.length := ⟨_, rfl⟩
            rw [← hnd]
            have HND := Lib.hid hnd
            have hnd2 : nd ≤ 4096 := by omega
            clear hnd
            go_upto_block 4 with fail
            go_cut [14] from 85 (fun s14 wx => wx.ownsRow W1.heap.size 5 1 s14 (U ++ ds.flatMap (lineD Q)).length (bc (U ++ ds.flatMap (lineD Q))) ∧ Below W1.heap.size W1 wx)
            case first =>
              go_wp2_with fail
              go_loopw [14, 16] (fun v sk wr => ∃ k : Nat, sk = .int .i64 k ∧ k ≤ nd ∧ wr.ownsRow W1.heap.size 5 1 v (U ++ (ds.take k).flatMap (lineD Q)).length (bc (U ++ (ds.take k).flatMap (lineD Q))) ∧ SRow wr gd ds ∧ Below W1.heap.size W1 wr) (fun _ sk _ => nd - (intOf sk).toNat)
              case atStart => exact ⟨0, rfl, Nat.zero_le _, by simpa using RB.out.1, RB.out.2⟩
              case round =>
                obtain ⟨k, rfl, hk, hown, hS, hbw⟩ := hrel
                by_cases hlt : k < nd
                · obtain ⟨x, hx⟩ : ∃ x, ds[k]? = some x := ⟨_, List.getElem?_eq_getElem (by have := HND.out; omega)⟩
                  have ck : (wr.alloc (.map #[] 0)).cell? ⟨gd, k, none⟩ = some (.string (S x)) := (hS.up ((Below.refl _ _).alloc (Nat.le_refl _) (.map #[] 0))).cell hx
                  have hxb := HD.out.1 x (List.mem_of_getElem? hx)
                  obtain ⟨l, hl⟩ : ∃ l, l = lineD Q x := ⟨_, rfl⟩
                  have hll2 : l.length ≤ 16777216 := by rw [hl]; exact lineD_le Q x (by omega)
                  have hl0 : 0 < l.length := by rw [hl]; exact lineD_pos Q x
                  have hnx : (ds.take (k + 1)).flatMap (lineD Q) = (ds.take k).flatMap (lineD Q) ++ l := by
                    rw [List.take_add_one, hx, List.flatMap_append, hl]
                    simp
                  obtain ⟨L, hL⟩ : ∃ L, L = U ++ (ds.take k).flatMap (lineD Q) := ⟨_, rfl⟩
                  rw [← hL] at hown
                  have hLl : L.length ≤ 536870912 + 68719476736 := by
                    have := flat_le (lineD Q) 16777216 (ds.take k) (fun e he => lineD_le Q e (by have := HD.out.1 e (List.mem_of_mem_take he); omega))
                    rw [List.length_take] at this
                    rw [hL, List.length_append]
                    have h9 : min k ds.length ≤ 4096 := by omega
                    have h8 := Nat.mul_le_mul_right 16777216 h9
                    have h7 := HACC.out
                    omega
                  have hnx2 : U ++ (ds.take (k + 1)).flatMap (lineD Q) = L ++ l := by rw [hnx, hL]; simp only [List.append_assoc]
                  obtain ⟨wm, hr, hA, hg⟩ := (SetAt.made wr).put (by unfold maxLen; omega) (S x) (by rw [S_size]; unfold maxLen; omega)
                  rw [S_data] at hA
                  obtain ⟨D, hD, hkk, hz1, hn1⟩ := hA.keys
                  rw [sd_one] at hkk hz1
                  have hbm : Below wr.heap.size wr wm := ((Below.refl wr.heap.size wr).alloc (Nat.le_refl _) _).grown hg (by simp) (fun j hj => by cases hj; exact Nat.le_refl _)
                  have hbt := hbw.trans (hbm.mono hbw.size)
                  have hmz := HW.out.2.2.2.2.kept (grown_of hbt) (by simp)
                  have hxb2 : ∀ e ∈ ([x] : LB), e.length + q.data.toList.length + 16 ≤ 1048576 := fun e he => by
                    rw [List.mem_singleton] at he
                    rw [he, ← HU.out.2.2.1]
                    exact hxb
                  have hxb := hxb2
                  have hpg := zpage_any F q wm (by rw [hbt.tape, HW.out.2.2.2.1.tape]; exact HF.out.1) HF.out.2 (by omega) wr.heap.size 1 b0 0 D (.map []) ⟨by have := hn1; simp only [size_eq, List.length_nil]; omega, hD, hmz, fun e he => hxb e (by rw [← hkk]; exact he), (fun e he => absurd (keysS_nil ▸ he) (by simp))⟩
                  rw [hkk, keysS_nil, ← HU.out.2.2.1, page_one_d, ← HU.out.1] at hpg
                  rw [← hl] at hpg
                  have R := Lib.hid (And.intro hpg (And.intro (hown.kept (grown_of hbm) (Classical.em _)) (And.intro (hS.up hbm) (And.intro hbt hnx2))))
                  clear hown hS hbw hx hl hnx hL hnx2 hA hg hD hkk hz1 hn1 hbm hbt hmz hxb hxb2 hpg
                  go_wp2_with fail
                  refine R.out.1.mono ?_
                  rintro e w7 ⟨ao, no, co, rfl, hno, hro, hb7⟩
                  obtain ⟨xo, rfl⟩ := inrow_some hro (by rw [hno, List.length_append]; omega)
                  have hno2 : no = ne + l.length := by rw [hno, List.length_append, HW.out.1]
                  have hW7 := R.out.2.2.2.1.trans (hb7.mono R.out.2.2.2.1.size)
                  have hcap7 := hro.cap
                  unfold maxLen at hcap7
                  obtain ⟨hcap8, hcap9⟩ := hcap7
                  have hpf := prefix_any (some xo) no co (some xe) ne ce U l w7 hro (HW.out.2.1.up hW7)
                  have hcut7 := tail_cells hro (by rw [← HW.out.1])
                  have R2 := Lib.hid (And.intro hpf (And.intro hcut7 (And.intro (R.out.2.1.kept (grown_of hb7) (Classical.em _)) (And.intro (R.out.2.2.1.up hb7) (And.intro hW7 R.out.2.2.2.2)))))
                  have t9 : ((no : Int) == (ne : Int)) = false := by simp; omega
                  have t10 : (ne : Int) ≤ (no : Int) := by omega
                  have t11 : (no : Int) ≤ (co : Int) := by omega
                  have t12 : (ne : Int) < (co : Int) := by omega
                  have t13 : ne < co := by omega
                  have t14 : ¬ co = ne := by omega
                  have HNO := Lib.hid hno2
                  have hs7 := hW7.size
                  clear hpf hro hb7 hW7 hno hno2 hcut7
                  go_wp2_with fail
                  refine R2.out.1.mono ?_
                  rintro e w8 ⟨rfl, qn, rfl⟩
                  go_wp2_with (at_builtin; refine wpList_append_own _ rfl _ _ 26 rfl W1.heap.size 5 i0 (.int .u8 0) 1 1 Tryf.underlying26 HI.out.1 HI.out.2.1 HI.out.2.2.1 HI.out.2.2.2 rfl (by decide) _ _ _ rfl (show (w7.drewN qn).ownsRow W1.heap.size 5 1 _ L.length (bc L) from R2.out.2.2.1) _ _ _ (bc l) rfl ?g1 ?g2 (bc_one l) ?g3 ?g4 ?g5 ?_)
                  case g1 => rw [bc_length, Nat.mul_one]; have := HNO.out; omega
                  case g2 => exact R2.out.2.1
                  case g3 => have := HNO.out; unfold maxLen; omega
                  case g4 => have := HNO.out; omega
                  case g5 => exact hs7
                  intro v9 w9 hown9 hg9 hnil9
                  have hso := srow_grown (w := w7.drewN qn) R2.out.2.2.2.1 R2.out.2.2.1 hg9
                  have hb9 := (below_drawn R2.out.2.2.2.2.1 qn).grown hg9 hs7 (fun j hj => (R2.out.2.2.1.lt j hj).1)
                  have hlen9 : L.length + (no - ne) = (L ++ l).length := by rw [List.length_append]; have := HNO.out; omega
                  rw [hlen9, ← bc_append] at hown9
                  have R3 := Lib.hid (And.intro hown9 (And.intro hso hb9))
                  clear hown9 hg9 hnil9 hso hb9 hlen9
                  go_wp2_with fail
                  exact ⟨⟨k + 1, by go_num, by omega, by rw [R2.out.2.2.2.2.2]; exact R3.out.1, R3.out.2⟩, by simp [intOf]; omega⟩
                · obtain rfl : k = nd := by omega
                  rw [List.take_of_length_le (by have := HND.out; omega)] at hown
                  have HE := Lib.hid (And.intro hown hbw)
                  clear hown hS hbw
                  go_wp2_with fail
                  go_meet
                  exact HE.out
            case rest =>
              have RA := Lib.hid hcut
              have HACC0 := HACC
              clear hcut RB HND hnd2
              have hacc : (U ++ ds.flatMap (lineD Q)).length ≤ 69256347648 := by
                have := flat_le (lineD Q) 16777216 ds (fun e he => lineD_le Q e (by have := HD.out.1 e he; omega))
                rw [List.length_append]
                have h8 := Nat.mul_le_mul_right 16777216 hdl
                have h7 := HACC0.out
                omega
              have HACC := Lib.hid hacc
              clear hacc HACC0
              go_wp2_with fail
              refine (sorted_any a2 l2 c2 ts (Bs ts) _ (H2.out.up (HW.out.2.2.2.1.trans (RA.out.2.mono HW.out.2.2.2.1.size))) rfl (by omega)).mono ?_
              rintro e w6 ⟨gd, cd, rfl, hS, hb6⟩
              rw [← HU.out.2.2.2.2] at hS ⊢
              have RB := Lib.hid (And.intro (RA.out.1.kept (grown_of hb6) (Classical.em _)) (And.intro hS (RA.out.2.trans (hb6.mono RA.out.2.size))))
              clear hS hb6 RA
              obtain ⟨nd, hnd⟩ : ∃ n, n = fs.length := ⟨_, rfl⟩
              rw [← hnd]
              have HND := Lib.hid hnd
              have hnd2 : nd ≤ 4096 := by omega
              clear hnd
              go_upto_block 6 with fail
              go_cut [14] from 119 (fun s14 wx => wx.ownsRow W1.heap.size 5 1 s14 (U ++ ds.flatMap (lineD Q) ++ fs.flatMap (lineF Q)).length (bc (U ++ ds.flatMap (lineD Q) ++ fs.flatMap (lineF Q))) ∧ Below W1.heap.size W1 wx)
              case first =>
                go_wp2_with fail
                go_loopw [14, 19] (fun v sk wr => ∃ k : Nat, sk = .int .i64 k ∧ k ≤ nd ∧ wr.ownsRow W1.heap.size 5 1 v (U ++ ds.flatMap (lineD Q) ++ (fs.take k).flatMap (lineF Q)).length (bc (U ++ ds.flatMap (lineD Q) ++ (fs.take k).flatMap (lineF Q))) ∧ SRow wr gd fs ∧ Below W1.heap.size W1 wr) (fun _ sk _ => nd - (intOf sk).toNat)
                case atStart => exact ⟨0, rfl, Nat.zero_le _, by simpa using RB.out.1, RB.out.2⟩
                case round =>
                  obtain ⟨k, rfl, hk, hown, hS, hbw⟩ := hrel
                  by_cases hlt : k < nd
                  · obtain ⟨x, hx⟩ : ∃ x, fs[k]? = some x := ⟨_, List.getElem?_eq_getElem (by have := HND.out; omega)⟩
                    have ck : (wr.alloc (.map #[] 0)).cell? ⟨gd, k, none⟩ = some (.string (S x)) := (hS.up ((Below.refl _ _).alloc (Nat.le_refl _) (.map #[] 0))).cell hx
                    have hxb := HD.out.2 x (List.mem_of_getElem? hx)
                    obtain ⟨l, hl⟩ : ∃ l, l = lineF Q x := ⟨_, rfl⟩
                    have hll2 : l.length ≤ 16777216 := by rw [hl]; exact lineF_le Q x (by omega)
                    have hl0 : 0 < l.length := by rw [hl]; exact lineF_pos Q x
                    have hnx : (fs.take (k + 1)).flatMap (lineF Q) = (fs.take k).flatMap (lineF Q) ++ l := by
                      rw [List.take_add_one, hx, List.flatMap_append, hl]
                      simp
                    obtain ⟨L, hL⟩ : ∃ L, L = U ++ ds.flatMap (lineD Q) ++ (fs.take k).flatMap (lineF Q) := ⟨_, rfl⟩
                    rw [← hL] at hown
                    have hLl : L.length ≤ 69256347648 + 68719476736 := by
                      have := flat_le (lineF Q) 16777216 (fs.take k) (fun e he => lineF_le Q e (by have := HD.out.2 e (List.mem_of_mem_take he); omega))
                      rw [List.length_take] at this
                      rw [hL, List.length_append]
                      have h9 : min k fs.length ≤ 4096 := by omega
                      have h8 := Nat.mul_le_mul_right 16777216 h9
                      have h7 := HACC.out
                      omega
                    have hnx2 : U ++ ds.flatMap (lineD Q) ++ (fs.take (k + 1)).flatMap (lineF Q) = L ++ l := by rw [hnx, hL]; simp only [List.append_assoc]
                    obtain ⟨wm, hr, hA, hg⟩ := (SetAt.made wr).put (by unfold maxLen; omega) (S x) (by rw [S_size]; unfold maxLen; omega)
                    rw [S_data] at hA
                    obtain ⟨D, hD, hkk, hz1, hn1⟩ := hA.keys
                    rw [sd_one] at hkk hz1
                    have hbm : Below wr.heap.size wr wm := ((Below.refl wr.heap.size wr).alloc (Nat.le_refl _) _).grown hg (by simp) (fun j hj => by cases hj; exact Nat.le_refl _)
                    have hbt := hbw.trans (hbm.mono hbw.size)
                    have hmz := HW.out.2.2.2.2.kept (grown_of hbt) (by simp)
                    have hxb2 : ∀ e ∈ ([x] : LB), e.length + q.data.toList.length + 16 ≤ 1048576 := fun e he => by
                      rw [List.mem_singleton] at he
                      rw [he, ← HU.out.2.2.1]
                      exact hxb
                    have hxb := hxb2
                    have hpg := zpage_any F q wm (by rw [hbt.tape, HW.out.2.2.2.1.tape]; exact HF.out.1) HF.out.2 (by omega) b0 0 wr.heap.size 1 (.map []) D ⟨by have := hn1; simp only [size_eq, List.length_nil]; omega, hmz, hD, (fun e he => absurd (keysS_nil ▸ he) (by simp)), fun e he => hxb e (by rw [← hkk]; exact he)⟩
                    rw [hkk, keysS_nil, ← HU.out.2.2.1, page_one_f, ← HU.out.1] at hpg
                    rw [← hl] at hpg
                    have R := Lib.hid (And.intro hpg (And.intro (hown.kept (grown_of hbm) (Classical.em _)) (And.intro (hS.up hbm) (And.intro hbt hnx2))))
                    clear hown hS hbw hx hl hnx hL hnx2 hA hg hD hkk hz1 hn1 hbm hbt hmz hxb hxb2 hpg
                    go_wp2_with fail
                    refine R.out.1.mono ?_
                    rintro e w7 ⟨ao, no, co, rfl, hno, hro, hb7⟩
                    obtain ⟨xo, rfl⟩ := inrow_some hro (by rw [hno, List.length_append]; omega)
                    have hno2 : no = ne + l.length := by rw [hno, List.length_append, HW.out.1]
                    have hW7 := R.out.2.2.2.1.trans (hb7.mono R.out.2.2.2.1.size)
                    have hcap7 := hro.cap
                    unfold maxLen at hcap7
                    obtain ⟨hcap8, hcap9⟩ := hcap7
                    have hpf := prefix_any (some xo) no co (some xe) ne ce U l w7 hro (HW.out.2.1.up hW7)
                    have hcut7 := tail_cells hro (by rw [← HW.out.1])
                    have R2 := Lib.hid (And.intro hpf (And.intro hcut7 (And.intro (R.out.2.1.kept (grown_of hb7) (Classical.em _)) (And.intro (R.out.2.2.1.up hb7) (And.intro hW7 R.out.2.2.2.2)))))
                    have t9 : ((no : Int) == (ne : Int)) = false := by simp; omega
                    have t10 : (ne : Int) ≤ (no : Int) := by omega
                    have t11 : (no : Int) ≤ (co : Int) := by omega
                    have t12 : (ne : Int) < (co : Int) := by omega
                    have t13 : ne < co := by omega
                    have t14 : ¬ co = ne := by omega
                    have HNO := Lib.hid hno2
                    have hs7 := hW7.size
                    clear hpf hro hb7 hW7 hno hno2 hcut7
                    go_wp2_with fail
                    refine R2.out.1.mono ?_
                    rintro e w8 ⟨rfl, qn, rfl⟩
                    go_wp2_with (at_builtin; refine wpList_append_own _ rfl _ _ 26 rfl W1.heap.size 5 i0 (.int .u8 0) 1 1 Tryf.underlying26 HI.out.1 HI.out.2.1 HI.out.2.2.1 HI.out.2.2.2 rfl (by decide) _ _ _ rfl (show (w7.drewN qn).ownsRow W1.heap.size 5 1 _ L.length (bc L) from R2.out.2.2.1) _ _ _ (bc l) rfl ?g1 ?g2 (bc_one l) ?g3 ?g4 ?g5 ?_)
                    case g1 => rw [bc_length, Nat.mul_one]; have := HNO.out; omega
                    case g2 => exact R2.out.2.1
                    case g3 => have := HNO.out; unfold maxLen; omega
                    case g4 => have := HNO.out; omega
                    case g5 => exact hs7
                    intro v9 w9 hown9 hg9 hnil9
                    have hso := srow_grown (w := w7.drewN qn) R2.out.2.2.2.1 R2.out.2.2.1 hg9
                    have hb9 := (below_drawn R2.out.2.2.2.2.1 qn).grown hg9 hs7 (fun j hj => (R2.out.2.2.1.lt j hj).1)
                    have hlen9 : L.length + (no - ne) = (L ++ l).length := by rw [List.length_append]; have := HNO.out; omega
                    rw [hlen9, ← bc_append] at hown9
                    have R3 := Lib.hid (And.intro hown9 (And.intro hso hb9))
                    clear hown9 hg9 hnil9 hso hb9 hlen9
                    go_wp2_with fail
                    exact ⟨⟨k + 1, by go_num, by omega, by rw [R2.out.2.2.2.2.2]; exact R3.out.1, R3.out.2⟩, by simp [intOf]; omega⟩
                  · obtain rfl : k = nd := by omega
                    rw [List.take_of_length_le (by have := HND.out; omega)] at hown
                    have HE := Lib.hid (And.intro hown hbw)
                    clear hown hS hbw
                    go_wp2_with fail
                    go_meet
                    exact HE.out
              case rest =>
                obtain ⟨av, cv, rfl, hiv⟩ := owns_in hcut.1
                have hbz := HW.out.2.2.2.1.trans (hcut.2.mono HW.out.2.2.2.1.size)
                have hwhole := HW.out.2.2.1.up hcut.2
                have hTe : U ++ ds.flatMap (lineD Q) ++ fs.flatMap (lineF Q) = T := by
                  rw [HU.out.2.1, HU.out.1]
                  simp [page]
                rw [hTe] at hiv ⊢
                have HZ := Lib.hid (And.intro (bytesEq_any ap np cp av T.length cv T wc hwhole hiv) hbz)
                clear hiv hbz hwhole hTe hcut
                go_wp2_with fail
                refine HZ.out.1.mono ?_
                rintro e wz ⟨rfl, qz, rfl⟩
                go_wp2_with fail
                go_ret
                exact ⟨rfl, below_drawn HZ.out.2 qz⟩
      · go_wp2_with fail
        refine (HSB.out.1 _ H1.out).mono ?_
        rintro e w' ⟨rfl, rfl⟩
        go_wp2_with fail
        refine (HSB.out.2 _ H2.out).mono ?_
        rintro e w' ⟨rfl, rfl⟩
        go_wp2_with fail
        go_ret
        exact ⟨rfl, Below.refl _ _⟩
    · go_wp2_with fail
      go_ret
      exact ⟨rfl, Below.refl _ _⟩

end Go.Proofs.YtpjpdeecpobmlaaFmt
