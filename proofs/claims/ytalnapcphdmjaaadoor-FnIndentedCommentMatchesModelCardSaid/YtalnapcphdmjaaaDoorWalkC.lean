/-
  The walk of the law that an indented comment matches its model; conditions: what the listed tables hold, the sizes that each names.
-/
import Derived.Test.YtalnapcphdmjaaaDoorB2e
import Derived.Deep.QuietTactic
import Derived.BigQuiet
namespace Go.Proofs.YtalnapcphdmjaaaDoor
open Go.RowKit

def WRel (B : Nat) (E T : List UInt8) (kk k : Nat) (w : World) (v : Value) (wr : World) : Prop := w.heap.size ≤ wr.heap.size ∧ ∃ m a len cap, v = .slice a len cap ∧ wr.ownsRow B 5 1 (.slice a len cap) (Lib.byteCells m).length (Lib.byteCells m) ∧ Below B w wr ∧ m ++ lay kk (T.drop k) = E
theorem one_more {B : Nat} {w : World} {v : Value} {m : List UInt8} {c : UInt8} (h : w.ownsRow B 5 1 v ((Lib.byteCells m).length + 1) (Lib.byteCells m ++ [.int .u8 c.toNat])) : w.ownsRow B 5 1 v (Lib.byteCells (m ++ [c])).length (Lib.byteCells (m ++ [c])) := by
  have e : Lib.byteCells (m ++ [c]) = Lib.byteCells m ++ [.int .u8 c.toNat] := Lib.byteCells_append m [c]
  rw [e, List.length_append]
  exact h
theorem drop_at (T : List UInt8) (k : Nat) (c : UInt8) (h : T[k]? = some c) : T.drop k = c :: T.drop (k + 1) := by
  obtain ⟨hk, he⟩ := List.getElem?_eq_some_iff.1 h
  rw [List.drop_eq_getElem_cons hk, he]
theorem next_plain {kk k : Nat} {T m E : List UInt8} {c : UInt8} (h : T[k]? = some c) (hm : m ++ lay kk (T.drop k) = E) (hc : c ≠ 10 ∨ kk = 0) : (m ++ [c]) ++ lay kk (T.drop (k + 1)) = E := by
  rw [drop_at T k c h, lay_cons] at hm
  rw [← hm, List.append_assoc]
  rcases hc with hc | rfl
  · rw [if_neg hc]; rfl
  · simp
theorem next_line {kk k : Nat} {T m E : List UInt8} {c : UInt8} (h : T[k]? = some c) (hm : m ++ lay kk (T.drop k) = E) (hc : c = 10) : ((m ++ [c]) ++ List.replicate (2 * kk) 32) ++ lay kk (T.drop (k + 1)) = E := by
  rw [drop_at T k c h, lay_cons, if_pos hc] at hm
  rw [← hm, List.append_assoc, List.append_assoc]
  rfl
theorem all_done {kk k : Nat} {T m E : List UInt8} (h : ¬ k < T.length) (hm : m ++ lay kk (T.drop k) = E) : m = E := by
  rw [List.drop_eq_nil_of_le (by omega)] at hm
  rw [← hm]
  simp [lay]
theorem short_of {kk k : Nat} {T m E : List UInt8} (hm : m ++ lay kk (T.drop k) = E) : m.length ≤ E.length := by
  rw [← hm, List.length_append]
  omega

set_option maxHeartbeats 4000000 in
set_option maxRecDepth 100000 in
theorem model_styled (mini : Bool) (lim : Int) (a : Option Addr) (len cap : Nat) (l : List UInt8) (n : Int) (text : ByteArray) (w : World) (hT : Tabs w) (hin : InRow w a len cap (Lib.byteCells l)) (hsum : len + text.size ≤ 1048576) (hn0 : -2147483648 ≤ n) (hn : n ≤ 65536) (hlim : -9223372036854775808 ≤ lim ∧ lim ≤ 9223372036854775807)
    (hprod : mini = false → newlines text.data.toList * lv n lim ≤ 262144) :
    Calls Tryd.prog 4 #[.bool mini, .int .i64 lim, .bool false, .slice a len cap, .int .i32 n, .string text] w fun e w' => e = .returned (.bool true) ∧ Below w.heap.size w w' := by
  obtain ⟨i0, hi, hz0, hz1, hz2⟩ := info_parts bld_byte
  have HI := Lib.hid (And.intro hi (And.intro hz0 (And.intro hz1 hz2)))
  clear hi hz0 hz1 hz2
  have hlen := hin.len
  rw [Lib.byteCells_length] at hlen
  have hE := esc_length styleTag text.data.toList
  rw [← Lib.size_eq] at hE
  have hts : text.size = text.data.toList.length := Lib.size_eq text
  have hbd : l.length + ((esc styleTag text.data.toList).length + newlines text.data.toList * (2 * (if mini then 0 else lv n lim))) ≤ 1000000000 := by
    cases mini
    · have := hprod rfl
      simp only [Bool.false_eq_true, if_false]
      rw [Nat.mul_left_comm]
      omega
    · simp only [if_true]
      omega
  have H := Lib.hid (And.intro hT (And.intro hin (And.intro hbd hlen)))
  have hK : lv n lim ≤ 65536 := lv_le n lim hn
  have hC : newlines text.data.toList ≤ 1048576 := by have := newlines_le text.data.toList; omega
  clear hT hin hbd hlen
  have hlv := levels_any n lim
  have hct := count_any text
  obtain ⟨E, hR⟩ : ∃ E, l ++ cmt mini n lim (esc styleTag text.data.toList) = E := ⟨_, rfl⟩
  have hRL : E.length ≤ 1000000000 := by
    rw [← hR]
    unfold cmt
    rw [List.length_append, lay_length, newlines_esc]
    have := H.out.2.2.1
    omega
  have HRL := Lib.hid hRL
  clear hRL
  have hzz := fun B v w1 hT1 ho hB => zz_styled B mini lim l v n text w1 hT1 hn0 hn hlim ho hB (by omega) H.out.2.2.1
  rw [hR] at hzz
  obtain ⟨T, hTe⟩ : ∃ T, (esc styleTag text.data.toList) = T := ⟨_, rfl⟩
  have hTl : T.length ≤ 2097152 := by rw [← hTe]; omega
  unfold cmt at hR
  rw [hTe] at hR
  have hesc := fun w1 => escape_any text w1 (by omega)
  rw [hTe] at hesc
  clear hE hts
  have HC := Lib.hid (And.intro hR (And.intro hlv (And.intro hct (And.intro hzz hesc))))
  clear hR hlv hct hzz hesc
  obtain ⟨K, hKe⟩ : ∃ K, lv n lim = K := ⟨_, rfl⟩
  obtain ⟨C, hCe⟩ : ∃ C, newlines text.data.toList = C := ⟨_, rfl⟩
  rw [hKe, hCe] at hprod HC
  rw [hKe] at hK
  rw [hCe] at hC
  have m0 : C * K ≤ 1048576 * 65536 := Nat.mul_le_mul hC hK
  obtain ⟨M, hM⟩ : ∃ M, C * K = M := ⟨_, rfl⟩
  rw [hM] at m0 hprod
  have hMi : (C : Int) * (K : Int) = (M : Int) := by rw [← hM]; exact (Int.natCast_mul C K).symm
  cases mini
  · obtain hR : l ++ lay K T = E := HC.out.1
    have HR := Lib.hid hR
    clear hR
    have hp := hprod rfl
    clear hprod
    go_enter Tryd.func4, Tryd.ntmps4
    go_wp2_with (go_at_call 11; refine (zz11_yes _ lim false a len cap n text _ hsum).mono ?_; rintro e w' ⟨rfl, rfl⟩)
    refine (HC.out.2.1 _ hn0 hn hlim).mono ?_
    rintro e w' ⟨rfl, rfl⟩
    go_wp2_with (go_at_call 7; refine (HC.out.2.2.1 _ (by omega)).mono ?_; rintro e w' ⟨rfl, rfl⟩)
    refine (clone_any w.heap.size a len cap l _ H.out.2.1 (by omega) (Nat.le_refl _)).mono ?_
    rintro e w1 ⟨a1, len1, cap1, rfl, ho1, hb1⟩
    obtain ⟨hi1, hl1⟩ := owns_in ho1
    rw [Lib.byteCells_length, H.out.2.2.2] at hl1
    subst hl1
    have hT1 := H.out.1.up hb1
    clear ho1
    go_wp2_with fail
    refine (clone_any w1.heap.size a1 len1 cap1 l _ hi1 (by omega) (Nat.le_refl _)).mono ?_
    rintro e w2 ⟨a2, len2, cap2, rfl, ho2, hb2⟩
    go_wp2_with fail
    refine (HC.out.2.2.2.1 w1.heap.size (.slice a2 len2 cap2) _ (hT1.up hb2) ho2 hb2.size).mono ?_
    rintro e w3 ⟨ag, lg, cg, rfl, ho3, hb3⟩
    obtain ⟨hig, hlg⟩ := owns_in ho3
    rw [Lib.byteCells_length] at hlg
    subst hlg
    have hb23 := hb2.trans hb3
    have HB := Lib.hid (And.intro (hi1.up hb23) (And.intro hig (hb1.trans (hb23.mono hb1.size))))
    clear hi1 hb1 ho2 hb2 ho3 hig hb3 hb23 hT1
    go_wp2_with fail
    refine (HC.out.2.2.2.2 _).mono ?_
    rintro e w4 ⟨ae, ce, rfl, hie, hb4⟩
    go_wp2_with fail
    refine (clone_any w4.heap.size a1 len1 cap1 l _ (HB.out.1.up hb4) (by omega) (Nat.le_refl _)).mono ?_
    rintro e w5 ⟨aw, lw, cw, rfl, ho5, hb5⟩
    have HB2 := Lib.hid (And.intro hie (And.intro (HB.out.2.1.up hb4) (And.intro hb5 (HB.out.2.2.trans (hb4.mono HB.out.2.2.size)))))
    have H0 : WRel w4.heap.size E T K 0 w5 (.slice aw lw cw) w5 := ⟨Nat.le_refl _, l, aw, lw, cw, rfl, ho5, Below.refl _ _, HR.out⟩
    have hs45 := hb5.size
    clear hie hb4 hb5 ho5
    go_wp2_with fail
    go_loopw [16, 17] (fun s0 i wr => ∃ k : Nat, k ≤ T.length ∧ i = .int .i64 k ∧ WRel w4.heap.size E T K k w5 s0 wr) (fun _ i _ => T.length - (intOf i).toNat)
    case atStart => exact ⟨0, Nat.zero_le _, rfl, H0⟩
    case round =>
      clear H0
      obtain ⟨k, hk, rfl, hszr, m, a6, len6, cap6, rfl, hown, hb, hm⟩ := hrel
      have hml : m.length ≤ 1000000000 := Nat.le_trans (short_of hm) HRL.out
      have HM := Lib.hid hm
      clear hm
      by_cases hlt : k < T.length
      · obtain ⟨xb, c, rfl, e1, c1⟩ := in_get (HB2.out.1.up (HB2.out.2.2.1.trans hb)) hlt
        have HE1 := Lib.hid e1
        clear e1
        cases h10 : ((c.toNat : Int) == 10)
        · go_wp2_with (at_builtin; refine wpList_append_own _ rfl _ _ 22 rfl w4.heap.size 5 i0 (.int .u8 0) 1 1 Tryd.underlying22 HI.out.1 HI.out.2.1 HI.out.2.2.1 HI.out.2.2.2 rfl (by decide) _ _ _ rfl (hown.alloc _) ⟨wr.heap.size, 0, none⟩ 1 1 [.int .u8 c.toNat] rfl rfl ?a1 ?a2 ?a3 ?a4 ?a5 ?_)
          case a1 =>
            intro j u hj
            have hj2 := (List.getElem?_eq_some_iff.1 hj).1
            simp at hj2
            subst hj2
            injection hj with hj
            subst hj
            simp [Addr.add]
          case a2 =>
            intro u hu
            simp at hu
            subst hu
            rfl
          case a3 => rw [Lib.byteCells_length]; unfold maxLen; simp; omega
          case a4 => rw [Lib.byteCells_length]; simp; omega
          case a5 => simp; omega
          intro v' w6 hown' hgrow _
          have hgs := hgrow.size
          have hb6 := (hb.alloc (by omega) _).grown hgrow (by simp; omega) (fun k hk => (hown.lt k hk).1)
          simp at hgs
          obtain ⟨ao, n', cp, rfl⟩ : ∃ ao n' cp, v' = .slice ao n' cp := by
            rcases hown'.2 with ⟨e, _⟩ | ⟨g, cap, cur, e, _⟩ <;> exact ⟨_, _, _, e⟩
          obtain ⟨xb2, c', hx, e2, c2⟩ := in_get (HB2.out.1.up (HB2.out.2.2.1.trans hb6)) hlt
          obtain rfl := Option.some.inj hx
          have e3 := HE1.out
          rw [e2] at e3
          obtain rfl := Option.some.inj e3
          clear e2 e3 hx c1
          go_wp2_with fail
          exact ⟨⟨k + 1, by omega, by go_num, by omega, m ++ [c'], ao, n', cp, rfl, one_more hown', hb6, next_plain HE1.out HM.out (.inl fun e => by rw [e] at h10; exact absurd h10 (by decide))⟩, by simp [intOf]; omega⟩
        · go_wp2_with (at_builtin; refine wpList_append_own _ rfl _ _ 22 rfl w4.heap.size 5 i0 (.int .u8 0) 1 1 Tryd.underlying22 HI.out.1 HI.out.2.1 HI.out.2.2.1 HI.out.2.2.2 rfl (by decide) _ _ _ rfl (hown.alloc _) ⟨wr.heap.size, 0, none⟩ 1 1 [.int .u8 c.toNat] rfl rfl ?a1 ?a2 ?a3 ?a4 ?a5 ?_)
          case a1 =>
            intro j u hj
            have hj2 := (List.getElem?_eq_some_iff.1 hj).1
            simp at hj2
            subst hj2
            injection hj with hj
            subst hj
            simp [Addr.add]
          case a2 =>
            intro u hu
            simp at hu
            subst hu
            rfl
          case a3 => rw [Lib.byteCells_length]; unfold maxLen; simp; omega
          case a4 => rw [Lib.byteCells_length]; simp; omega
          case a5 => simp; omega
          intro v' w6 hown' hgrow _
          have hgs := hgrow.size
          have hb6 := (hb.alloc (by omega) _).grown hgrow (by simp; omega) (fun k hk => (hown.lt k hk).1)
          simp at hgs
          obtain ⟨ao, n', cp, rfl⟩ : ∃ ao n' cp, v' = .slice ao n' cp := by
            rcases hown'.2 with ⟨e, _⟩ | ⟨g, cap, cur, e, _⟩ <;> exact ⟨_, _, _, e⟩
          obtain ⟨xb2, c', hx, e2, c2⟩ := in_get (HB2.out.1.up (HB2.out.2.2.1.trans hb6)) hlt
          obtain rfl := Option.some.inj hx
          have e3 := HE1.out
          rw [e2] at e3
          obtain rfl := Option.some.inj e3
          clear e2 e3 hx c1
          go_wp2_with fail
          refine (spaces_any w4.heap.size ao n' cp (m ++ [c']) K _ (one_more hown') (by rw [List.length_append]; simp; omega) hK (by omega)).mono ?_
          rintro e w7 ⟨a7, len7, cap7, rfl, ho7, hb7⟩
          have hs7 := hb7.size
          go_wp2_with fail
          have he : c' = 10 := UInt8.toNat_inj.1 (by rw [beq_iff_eq] at h10; show _ = 10; omega)
          exact ⟨⟨k + 1, by omega, by go_num, by omega, _, a7, len7, cap7, rfl, ho7, hb6.trans hb7, next_line HE1.out HM.out he⟩, by simp [intOf]; omega⟩
      · obtain rfl := all_done hlt HM.out
        obtain ⟨hiw, hlw⟩ := owns_in hown
        rw [Lib.byteCells_length] at hlw
        subst hlw
        have hbx := HB2.out.2.2.1.trans hb
        have hrow := HB2.out.2.1.up hbx
        go_wp2_with fail
        refine (equal_same _ ag a6 cg cap6 _ hrow hiw (by omega)).mono ?_
        rintro e w' ⟨rfl, q, rfl⟩
        go_wp2_with fail
        go_ret
        exact ⟨rfl, (HB2.out.2.2.2.trans (hbx.mono HB2.out.2.2.2.size)).trans ⟨rfl, rfl, rfl, Nat.le_refl _, fun _ _ => rfl⟩⟩
  · obtain hR : l ++ lay 0 T = E := HC.out.1
    have HR := Lib.hid hR
    clear hR
    go_enter Tryd.func4, Tryd.ntmps4
    go_wp2_with (go_at_call 11; refine (zz11_yes _ lim false a len cap n text _ hsum).mono ?_; rintro e w' ⟨rfl, rfl⟩)
    refine (HC.out.2.1 _ hn0 hn hlim).mono ?_
    rintro e w' ⟨rfl, rfl⟩
    go_wp2_with fail
    refine (clone_any w.heap.size a len cap l _ H.out.2.1 (by omega) (Nat.le_refl _)).mono ?_
    rintro e w1 ⟨a1, len1, cap1, rfl, ho1, hb1⟩
    obtain ⟨hi1, hl1⟩ := owns_in ho1
    rw [Lib.byteCells_length, H.out.2.2.2] at hl1
    subst hl1
    have hT1 := H.out.1.up hb1
    clear ho1
    go_wp2_with fail
    refine (clone_any w1.heap.size a1 len1 cap1 l _ hi1 (by omega) (Nat.le_refl _)).mono ?_
    rintro e w2 ⟨a2, len2, cap2, rfl, ho2, hb2⟩
    go_wp2_with fail
    refine (HC.out.2.2.2.1 w1.heap.size (.slice a2 len2 cap2) _ (hT1.up hb2) ho2 hb2.size).mono ?_
    rintro e w3 ⟨ag, lg, cg, rfl, ho3, hb3⟩
    obtain ⟨hig, hlg⟩ := owns_in ho3
    rw [Lib.byteCells_length] at hlg
    subst hlg
    have hb23 := hb2.trans hb3
    have HB := Lib.hid (And.intro (hi1.up hb23) (And.intro hig (hb1.trans (hb23.mono hb1.size))))
    clear hi1 hb1 ho2 hb2 ho3 hig hb3 hb23 hT1
    go_wp2_with fail
    refine (HC.out.2.2.2.2 _).mono ?_
    rintro e w4 ⟨ae, ce, rfl, hie, hb4⟩
    go_wp2_with fail
    refine (clone_any w4.heap.size a1 len1 cap1 l _ (HB.out.1.up hb4) (by omega) (Nat.le_refl _)).mono ?_
    rintro e w5 ⟨aw, lw, cw, rfl, ho5, hb5⟩
    have HB2 := Lib.hid (And.intro hie (And.intro (HB.out.2.1.up hb4) (And.intro hb5 (HB.out.2.2.trans (hb4.mono HB.out.2.2.size)))))
    have H0 : WRel w4.heap.size E T 0 0 w5 (.slice aw lw cw) w5 := ⟨Nat.le_refl _, l, aw, lw, cw, rfl, ho5, Below.refl _ _, HR.out⟩
    have hs45 := hb5.size
    clear hie hb4 hb5 ho5
    go_wp2_with fail
    go_loopw [16, 17] (fun s0 i wr => ∃ k : Nat, k ≤ T.length ∧ i = .int .i64 k ∧ WRel w4.heap.size E T 0 k w5 s0 wr) (fun _ i _ => T.length - (intOf i).toNat)
    case atStart => exact ⟨0, Nat.zero_le _, rfl, H0⟩
    case round =>
      clear H0
      obtain ⟨k, hk, rfl, hszr, m, a6, len6, cap6, rfl, hown, hb, hm⟩ := hrel
      have hml : m.length ≤ 1000000000 := Nat.le_trans (short_of hm) HRL.out
      have HM := Lib.hid hm
      clear hm
      by_cases hlt : k < T.length
      · obtain ⟨xb, c, rfl, e1, c1⟩ := in_get (HB2.out.1.up (HB2.out.2.2.1.trans hb)) hlt
        have HE1 := Lib.hid e1
        clear e1
        cases h10 : ((c.toNat : Int) == 10)
        · go_wp2_with (at_builtin; refine wpList_append_own _ rfl _ _ 22 rfl w4.heap.size 5 i0 (.int .u8 0) 1 1 Tryd.underlying22 HI.out.1 HI.out.2.1 HI.out.2.2.1 HI.out.2.2.2 rfl (by decide) _ _ _ rfl (hown.alloc _) ⟨wr.heap.size, 0, none⟩ 1 1 [.int .u8 c.toNat] rfl rfl ?a1 ?a2 ?a3 ?a4 ?a5 ?_)
          case a1 =>
            intro j u hj
            have hj2 := (List.getElem?_eq_some_iff.1 hj).1
            simp at hj2
            subst hj2
            injection hj with hj
            subst hj
            simp [Addr.add]
          case a2 =>
            intro u hu
            simp at hu
            subst hu
            rfl
          case a3 => rw [Lib.byteCells_length]; unfold maxLen; simp; omega
          case a4 => rw [Lib.byteCells_length]; simp; omega
          case a5 => simp; omega
          intro v' w6 hown' hgrow _
          have hgs := hgrow.size
          have hb6 := (hb.alloc (by omega) _).grown hgrow (by simp; omega) (fun k hk => (hown.lt k hk).1)
          simp at hgs
          obtain ⟨ao, n', cp, rfl⟩ : ∃ ao n' cp, v' = .slice ao n' cp := by
            rcases hown'.2 with ⟨e, _⟩ | ⟨g, cap, cur, e, _⟩ <;> exact ⟨_, _, _, e⟩
          obtain ⟨xb2, c', hx, e2, c2⟩ := in_get (HB2.out.1.up (HB2.out.2.2.1.trans hb6)) hlt
          obtain rfl := Option.some.inj hx
          have e3 := HE1.out
          rw [e2] at e3
          obtain rfl := Option.some.inj e3
          clear e2 e3 hx c1
          go_wp2_with fail
          exact ⟨⟨k + 1, by omega, by go_num, by omega, m ++ [c'], ao, n', cp, rfl, one_more hown', hb6, next_plain HE1.out HM.out (.inl fun e => by rw [e] at h10; exact absurd h10 (by decide))⟩, by simp [intOf]; omega⟩
        · go_wp2_with (at_builtin; refine wpList_append_own _ rfl _ _ 22 rfl w4.heap.size 5 i0 (.int .u8 0) 1 1 Tryd.underlying22 HI.out.1 HI.out.2.1 HI.out.2.2.1 HI.out.2.2.2 rfl (by decide) _ _ _ rfl (hown.alloc _) ⟨wr.heap.size, 0, none⟩ 1 1 [.int .u8 c.toNat] rfl rfl ?a1 ?a2 ?a3 ?a4 ?a5 ?_)
          case a1 =>
            intro j u hj
            have hj2 := (List.getElem?_eq_some_iff.1 hj).1
            simp at hj2
            subst hj2
            injection hj with hj
            subst hj
            simp [Addr.add]
          case a2 =>
            intro u hu
            simp at hu
            subst hu
            rfl
          case a3 => rw [Lib.byteCells_length]; unfold maxLen; simp; omega
          case a4 => rw [Lib.byteCells_length]; simp; omega
          case a5 => simp; omega
          intro v' w6 hown' hgrow _
          have hgs := hgrow.size
          have hb6 := (hb.alloc (by omega) _).grown hgrow (by simp; omega) (fun k hk => (hown.lt k hk).1)
          simp at hgs
          obtain ⟨ao, n', cp, rfl⟩ : ∃ ao n' cp, v' = .slice ao n' cp := by
            rcases hown'.2 with ⟨e, _⟩ | ⟨g, cap, cur, e, _⟩ <;> exact ⟨_, _, _, e⟩
          obtain ⟨xb2, c', hx, e2, c2⟩ := in_get (HB2.out.1.up (HB2.out.2.2.1.trans hb6)) hlt
          obtain rfl := Option.some.inj hx
          have e3 := HE1.out
          rw [e2] at e3
          obtain rfl := Option.some.inj e3
          clear e2 e3 hx c1
          go_wp2_with fail
          exact ⟨⟨k + 1, by omega, by go_num, by omega, m ++ [c'], ao, n', cp, rfl, one_more hown', hb6, next_plain HE1.out HM.out (.inr rfl)⟩, by simp [intOf]; omega⟩
      · obtain rfl := all_done hlt HM.out
        obtain ⟨hiw, hlw⟩ := owns_in hown
        rw [Lib.byteCells_length] at hlw
        subst hlw
        have hbx := HB2.out.2.2.1.trans hb
        have hrow := HB2.out.2.1.up hbx
        go_wp2_with fail
        refine (equal_same _ ag a6 cg cap6 _ hrow hiw (by omega)).mono ?_
        rintro e w' ⟨rfl, q, rfl⟩
        go_wp2_with fail
        go_ret
        exact ⟨rfl, (HB2.out.2.2.2.trans (hbx.mono HB2.out.2.2.2.size)).trans ⟨rfl, rfl, rfl, Nat.le_refl _, fun _ _ => rfl⟩⟩

set_option maxHeartbeats 4000000 in
set_option maxRecDepth 100000 in
theorem model_plain (mini : Bool) (lim : Int) (a : Option Addr) (len cap : Nat) (l : List UInt8) (n : Int) (text : ByteArray) (w : World) (hin : InRow w a len cap (Lib.byteCells l)) (hsum : len + text.size ≤ 1048576) (hn0 : -2147483648 ≤ n) (hn : n ≤ 65536) (hlim : -9223372036854775808 ≤ lim ∧ lim ≤ 9223372036854775807)
    (hprod : mini = false → newlines text.data.toList * lv n lim ≤ 262144) :
    Calls Tryd.prog 4 #[.bool mini, .int .i64 lim, .bool true, .slice a len cap, .int .i32 n, .string text] w fun e w' => e = .returned (.bool true) ∧ Below w.heap.size w w' := by
  obtain ⟨i0, hi, hz0, hz1, hz2⟩ := info_parts bld_byte
  have HI := Lib.hid (And.intro hi (And.intro hz0 (And.intro hz1 hz2)))
  clear hi hz0 hz1 hz2
  have hlen := hin.len
  rw [Lib.byteCells_length] at hlen
  have hE := esc_length styleTag text.data.toList
  rw [← Lib.size_eq] at hE
  have hts : text.size = text.data.toList.length := Lib.size_eq text
  have hbd : l.length + (text.size + newlines text.data.toList * (2 * (if mini then 0 else lv n lim))) ≤ 1000000000 := by
    cases mini
    · have := hprod rfl
      simp only [Bool.false_eq_true, if_false]
      rw [Nat.mul_left_comm]
      omega
    · simp only [if_true]
      omega
  have H := Lib.hid (And.intro True.intro (And.intro hin (And.intro hbd hlen)))
  have hK : lv n lim ≤ 65536 := lv_le n lim hn
  have hC : newlines text.data.toList ≤ 1048576 := by have := newlines_le text.data.toList; omega
  clear hin hbd hlen
  have hlv := levels_any n lim
  have hct := count_any text
  obtain ⟨E, hR⟩ : ∃ E, l ++ cmt mini n lim text.data.toList = E := ⟨_, rfl⟩
  have hRL : E.length ≤ 1000000000 := by
    rw [← hR]
    unfold cmt
    rw [List.length_append, lay_length]
    have := H.out.2.2.1
    omega
  have HRL := Lib.hid hRL
  clear hRL
  have hzz := fun B v w1 ho hB => zz_plain B mini lim l v n text w1 hn0 hn hlim ho hB H.out.2.2.1
  rw [hR] at hzz
  obtain ⟨T, hTe⟩ : ∃ T, text.data.toList = T := ⟨_, rfl⟩
  have hTl : T.length ≤ 2097152 := by rw [← hTe]; omega
  unfold cmt at hR
  rw [hTe] at hR
  clear hE hts
  have HC := Lib.hid (And.intro hR (And.intro hlv (And.intro hct (And.intro hzz hTe))))
  clear hR hlv hct hzz
  obtain ⟨K, hKe⟩ : ∃ K, lv n lim = K := ⟨_, rfl⟩
  obtain ⟨C, hCe⟩ : ∃ C, newlines text.data.toList = C := ⟨_, rfl⟩
  rw [hKe, hCe] at hprod HC
  rw [hKe] at hK
  rw [hCe] at hC
  have m0 : C * K ≤ 1048576 * 65536 := Nat.mul_le_mul hC hK
  obtain ⟨M, hM⟩ : ∃ M, C * K = M := ⟨_, rfl⟩
  rw [hM] at m0 hprod
  have hMi : (C : Int) * (K : Int) = (M : Int) := by rw [← hM]; exact (Int.natCast_mul C K).symm
  cases mini
  · obtain hR : l ++ lay K T = E := HC.out.1
    have HR := Lib.hid hR
    clear hR
    have hp := hprod rfl
    clear hprod
    go_enter Tryd.func4, Tryd.ntmps4
    go_wp2_with (go_at_call 11; refine (zz11_yes _ lim true a len cap n text _ hsum).mono ?_; rintro e w' ⟨rfl, rfl⟩)
    refine (HC.out.2.1 _ hn0 hn hlim).mono ?_
    rintro e w' ⟨rfl, rfl⟩
    go_wp2_with (go_at_call 7; refine (HC.out.2.2.1 _ (by omega)).mono ?_; rintro e w' ⟨rfl, rfl⟩)
    refine (clone_any w.heap.size a len cap l _ H.out.2.1 (by omega) (Nat.le_refl _)).mono ?_
    rintro e w1 ⟨a1, len1, cap1, rfl, ho1, hb1⟩
    obtain ⟨hi1, hl1⟩ := owns_in ho1
    rw [Lib.byteCells_length, H.out.2.2.2] at hl1
    subst hl1
    clear ho1
    go_wp2_with fail
    refine (clone_any w1.heap.size a1 len1 cap1 l _ hi1 (by omega) (Nat.le_refl _)).mono ?_
    rintro e w2 ⟨a2, len2, cap2, rfl, ho2, hb2⟩
    go_wp2_with fail
    refine (HC.out.2.2.2.1 w1.heap.size (.slice a2 len2 cap2) _ ho2 hb2.size).mono ?_
    rintro e w3 ⟨ag, lg, cg, rfl, ho3, hb3⟩
    obtain ⟨hig, hlg⟩ := owns_in ho3
    rw [Lib.byteCells_length] at hlg
    subst hlg
    have hb23 := hb2.trans hb3
    have HB := Lib.hid (And.intro (hi1.up hb23) (And.intro hig (hb1.trans (hb23.mono hb1.size))))
    clear hi1 hb1 ho2 hb2 ho3 hig hb3 hb23
    have hcw := run_bytes_of_string (P := Tryd.prog) w3 9 22 5 text Tryd.underlying9 Tryd.underlying22 Tryd.underlying5
    have hie := made_in w3 text (by unfold maxLen; omega)
    have hb4 := (BufM.made w3 5 text (by unfold maxLen; omega)).below
    obtain ⟨w4, hw4⟩ : ∃ w4, w3.drew.alloc (.cells (bytesRow text (grownCap w3 text.size 0 5)) 5 ((bytesRow text (grownCap w3 text.size 0 5)).size, (bytesRow text (grownCap w3 text.size 0 5)).size + 1)) = w4 := ⟨_, rfl⟩
    rw [hw4] at hcw hie hb4
    obtain ⟨ae, hae⟩ : ∃ ae, (some ⟨w3.heap.size, 0, none⟩ : Option Addr) = ae := ⟨_, rfl⟩
    obtain ⟨ce, hce⟩ : ∃ ce, grownCap w3 text.size 0 5 = ce := ⟨_, rfl⟩
    have hsz : text.size = T.length := by rw [← HC.out.2.2.2.2]; exact Lib.size_eq text
    rw [hae, hce, hsz] at hcw
    rw [hae, hce, HC.out.2.2.2.2, hsz] at hie
    clear hw4 hae hce
    go_wp2_with fail
    refine (clone_any w4.heap.size a1 len1 cap1 l _ (HB.out.1.up hb4) (by omega) (Nat.le_refl _)).mono ?_
    rintro e w5 ⟨aw, lw, cw, rfl, ho5, hb5⟩
    have HB2 := Lib.hid (And.intro hie (And.intro (HB.out.2.1.up hb4) (And.intro hb5 (HB.out.2.2.trans (hb4.mono HB.out.2.2.size)))))
    have H0 : WRel w4.heap.size E T K 0 w5 (.slice aw lw cw) w5 := ⟨Nat.le_refl _, l, aw, lw, cw, rfl, ho5, Below.refl _ _, HR.out⟩
    have hs45 := hb5.size
    clear hie hb4 hb5 ho5
    go_wp2_with fail
    go_loopw [16, 17] (fun s0 i wr => ∃ k : Nat, k ≤ T.length ∧ i = .int .i64 k ∧ WRel w4.heap.size E T K k w5 s0 wr) (fun _ i _ => T.length - (intOf i).toNat)
    case atStart => exact ⟨0, Nat.zero_le _, rfl, H0⟩
    case round =>
      clear H0
      obtain ⟨k, hk, rfl, hszr, m, a6, len6, cap6, rfl, hown, hb, hm⟩ := hrel
      have hml : m.length ≤ 1000000000 := Nat.le_trans (short_of hm) HRL.out
      have HM := Lib.hid hm
      clear hm
      by_cases hlt : k < T.length
      · obtain ⟨xb, c, rfl, e1, c1⟩ := in_get (HB2.out.1.up (HB2.out.2.2.1.trans hb)) hlt
        have HE1 := Lib.hid e1
        clear e1
        cases h10 : ((c.toNat : Int) == 10)
        · go_wp2_with (at_builtin; refine wpList_append_own _ rfl _ _ 22 rfl w4.heap.size 5 i0 (.int .u8 0) 1 1 Tryd.underlying22 HI.out.1 HI.out.2.1 HI.out.2.2.1 HI.out.2.2.2 rfl (by decide) _ _ _ rfl (hown.alloc _) ⟨wr.heap.size, 0, none⟩ 1 1 [.int .u8 c.toNat] rfl rfl ?a1 ?a2 ?a3 ?a4 ?a5 ?_)
          case a1 =>
            intro j u hj
            have hj2 := (List.getElem?_eq_some_iff.1 hj).1
            simp at hj2
            subst hj2
            injection hj with hj
            subst hj
            simp [Addr.add]
          case a2 =>
            intro u hu
            simp at hu
            subst hu
            rfl
          case a3 => rw [Lib.byteCells_length]; unfold maxLen; simp; omega
          case a4 => rw [Lib.byteCells_length]; simp; omega
          case a5 => simp; omega
          intro v' w6 hown' hgrow _
          have hgs := hgrow.size
          have hb6 := (hb.alloc (by omega) _).grown hgrow (by simp; omega) (fun k hk => (hown.lt k hk).1)
          simp at hgs
          obtain ⟨ao, n', cp, rfl⟩ : ∃ ao n' cp, v' = .slice ao n' cp := by
            rcases hown'.2 with ⟨e, _⟩ | ⟨g, cap, cur, e, _⟩ <;> exact ⟨_, _, _, e⟩
          obtain ⟨xb2, c', hx, e2, c2⟩ := in_get (HB2.out.1.up (HB2.out.2.2.1.trans hb6)) hlt
          obtain rfl := Option.some.inj hx
          have e3 := HE1.out
          rw [e2] at e3
          obtain rfl := Option.some.inj e3
          clear e2 e3 hx c1
          go_wp2_with fail
          exact ⟨⟨k + 1, by omega, by go_num, by omega, m ++ [c'], ao, n', cp, rfl, one_more hown', hb6, next_plain HE1.out HM.out (.inl fun e => by rw [e] at h10; exact absurd h10 (by decide))⟩, by simp [intOf]; omega⟩
        · go_wp2_with (at_builtin; refine wpList_append_own _ rfl _ _ 22 rfl w4.heap.size 5 i0 (.int .u8 0) 1 1 Tryd.underlying22 HI.out.1 HI.out.2.1 HI.out.2.2.1 HI.out.2.2.2 rfl (by decide) _ _ _ rfl (hown.alloc _) ⟨wr.heap.size, 0, none⟩ 1 1 [.int .u8 c.toNat] rfl rfl ?a1 ?a2 ?a3 ?a4 ?a5 ?_)
          case a1 =>
            intro j u hj
            have hj2 := (List.getElem?_eq_some_iff.1 hj).1
            simp at hj2
            subst hj2
            injection hj with hj
            subst hj
            simp [Addr.add]
          case a2 =>
            intro u hu
            simp at hu
            subst hu
            rfl
          case a3 => rw [Lib.byteCells_length]; unfold maxLen; simp; omega
          case a4 => rw [Lib.byteCells_length]; simp; omega
          case a5 => simp; omega
          intro v' w6 hown' hgrow _
          have hgs := hgrow.size
          have hb6 := (hb.alloc (by omega) _).grown hgrow (by simp; omega) (fun k hk => (hown.lt k hk).1)
          simp at hgs
          obtain ⟨ao, n', cp, rfl⟩ : ∃ ao n' cp, v' = .slice ao n' cp := by
            rcases hown'.2 with ⟨e, _⟩ | ⟨g, cap, cur, e, _⟩ <;> exact ⟨_, _, _, e⟩
          obtain ⟨xb2, c', hx, e2, c2⟩ := in_get (HB2.out.1.up (HB2.out.2.2.1.trans hb6)) hlt
          obtain rfl := Option.some.inj hx
          have e3 := HE1.out
          rw [e2] at e3
          obtain rfl := Option.some.inj e3
          clear e2 e3 hx c1
          go_wp2_with fail
          refine (spaces_any w4.heap.size ao n' cp (m ++ [c']) K _ (one_more hown') (by rw [List.length_append]; simp; omega) hK (by omega)).mono ?_
          rintro e w7 ⟨a7, len7, cap7, rfl, ho7, hb7⟩
          have hs7 := hb7.size
          go_wp2_with fail
          have he : c' = 10 := UInt8.toNat_inj.1 (by rw [beq_iff_eq] at h10; show _ = 10; omega)
          exact ⟨⟨k + 1, by omega, by go_num, by omega, _, a7, len7, cap7, rfl, ho7, hb6.trans hb7, next_line HE1.out HM.out he⟩, by simp [intOf]; omega⟩
      · obtain rfl := all_done hlt HM.out
        obtain ⟨hiw, hlw⟩ := owns_in hown
        rw [Lib.byteCells_length] at hlw
        subst hlw
        have hbx := HB2.out.2.2.1.trans hb
        have hrow := HB2.out.2.1.up hbx
        go_wp2_with fail
        refine (equal_same _ ag a6 cg cap6 _ hrow hiw (by omega)).mono ?_
        rintro e w' ⟨rfl, q, rfl⟩
        go_wp2_with fail
        go_ret
        exact ⟨rfl, (HB2.out.2.2.2.trans (hbx.mono HB2.out.2.2.2.size)).trans ⟨rfl, rfl, rfl, Nat.le_refl _, fun _ _ => rfl⟩⟩
  · obtain hR : l ++ lay 0 T = E := HC.out.1
    have HR := Lib.hid hR
    clear hR
    go_enter Tryd.func4, Tryd.ntmps4
    go_wp2_with (go_at_call 11; refine (zz11_yes _ lim true a len cap n text _ hsum).mono ?_; rintro e w' ⟨rfl, rfl⟩)
    refine (HC.out.2.1 _ hn0 hn hlim).mono ?_
    rintro e w' ⟨rfl, rfl⟩
    go_wp2_with fail
    refine (clone_any w.heap.size a len cap l _ H.out.2.1 (by omega) (Nat.le_refl _)).mono ?_
    rintro e w1 ⟨a1, len1, cap1, rfl, ho1, hb1⟩
    obtain ⟨hi1, hl1⟩ := owns_in ho1
    rw [Lib.byteCells_length, H.out.2.2.2] at hl1
    subst hl1
    clear ho1
    go_wp2_with fail
    refine (clone_any w1.heap.size a1 len1 cap1 l _ hi1 (by omega) (Nat.le_refl _)).mono ?_
    rintro e w2 ⟨a2, len2, cap2, rfl, ho2, hb2⟩
    go_wp2_with fail
    refine (HC.out.2.2.2.1 w1.heap.size (.slice a2 len2 cap2) _ ho2 hb2.size).mono ?_
    rintro e w3 ⟨ag, lg, cg, rfl, ho3, hb3⟩
    obtain ⟨hig, hlg⟩ := owns_in ho3
    rw [Lib.byteCells_length] at hlg
    subst hlg
    have hb23 := hb2.trans hb3
    have HB := Lib.hid (And.intro (hi1.up hb23) (And.intro hig (hb1.trans (hb23.mono hb1.size))))
    clear hi1 hb1 ho2 hb2 ho3 hig hb3 hb23
    have hcw := run_bytes_of_string (P := Tryd.prog) w3 9 22 5 text Tryd.underlying9 Tryd.underlying22 Tryd.underlying5
    have hie := made_in w3 text (by unfold maxLen; omega)
    have hb4 := (BufM.made w3 5 text (by unfold maxLen; omega)).below
    obtain ⟨w4, hw4⟩ : ∃ w4, w3.drew.alloc (.cells (bytesRow text (grownCap w3 text.size 0 5)) 5 ((bytesRow text (grownCap w3 text.size 0 5)).size, (bytesRow text (grownCap w3 text.size 0 5)).size + 1)) = w4 := ⟨_, rfl⟩
    rw [hw4] at hcw hie hb4
    obtain ⟨ae, hae⟩ : ∃ ae, (some ⟨w3.heap.size, 0, none⟩ : Option Addr) = ae := ⟨_, rfl⟩
    obtain ⟨ce, hce⟩ : ∃ ce, grownCap w3 text.size 0 5 = ce := ⟨_, rfl⟩
    have hsz : text.size = T.length := by rw [← HC.out.2.2.2.2]; exact Lib.size_eq text
    rw [hae, hce, hsz] at hcw
    rw [hae, hce, HC.out.2.2.2.2, hsz] at hie
    clear hw4 hae hce
    go_wp2_with fail
    refine (clone_any w4.heap.size a1 len1 cap1 l _ (HB.out.1.up hb4) (by omega) (Nat.le_refl _)).mono ?_
    rintro e w5 ⟨aw, lw, cw, rfl, ho5, hb5⟩
    have HB2 := Lib.hid (And.intro hie (And.intro (HB.out.2.1.up hb4) (And.intro hb5 (HB.out.2.2.trans (hb4.mono HB.out.2.2.size)))))
    have H0 : WRel w4.heap.size E T 0 0 w5 (.slice aw lw cw) w5 := ⟨Nat.le_refl _, l, aw, lw, cw, rfl, ho5, Below.refl _ _, HR.out⟩
    have hs45 := hb5.size
    clear hie hb4 hb5 ho5
    go_wp2_with fail
    go_loopw [16, 17] (fun s0 i wr => ∃ k : Nat, k ≤ T.length ∧ i = .int .i64 k ∧ WRel w4.heap.size E T 0 k w5 s0 wr) (fun _ i _ => T.length - (intOf i).toNat)
    case atStart => exact ⟨0, Nat.zero_le _, rfl, H0⟩
    case round =>
      clear H0
      obtain ⟨k, hk, rfl, hszr, m, a6, len6, cap6, rfl, hown, hb, hm⟩ := hrel
      have hml : m.length ≤ 1000000000 := Nat.le_trans (short_of hm) HRL.out
      have HM := Lib.hid hm
      clear hm
      by_cases hlt : k < T.length
      · obtain ⟨xb, c, rfl, e1, c1⟩ := in_get (HB2.out.1.up (HB2.out.2.2.1.trans hb)) hlt
        have HE1 := Lib.hid e1
        clear e1
        cases h10 : ((c.toNat : Int) == 10)
        · go_wp2_with (at_builtin; refine wpList_append_own _ rfl _ _ 22 rfl w4.heap.size 5 i0 (.int .u8 0) 1 1 Tryd.underlying22 HI.out.1 HI.out.2.1 HI.out.2.2.1 HI.out.2.2.2 rfl (by decide) _ _ _ rfl (hown.alloc _) ⟨wr.heap.size, 0, none⟩ 1 1 [.int .u8 c.toNat] rfl rfl ?a1 ?a2 ?a3 ?a4 ?a5 ?_)
          case a1 =>
            intro j u hj
            have hj2 := (List.getElem?_eq_some_iff.1 hj).1
            simp at hj2
            subst hj2
            injection hj with hj
            subst hj
            simp [Addr.add]
          case a2 =>
            intro u hu
            simp at hu
            subst hu
            rfl
          case a3 => rw [Lib.byteCells_length]; unfold maxLen; simp; omega
          case a4 => rw [Lib.byteCells_length]; simp; omega
          case a5 => simp; omega
          intro v' w6 hown' hgrow _
          have hgs := hgrow.size
          have hb6 := (hb.alloc (by omega) _).grown hgrow (by simp; omega) (fun k hk => (hown.lt k hk).1)
          simp at hgs
          obtain ⟨ao, n', cp, rfl⟩ : ∃ ao n' cp, v' = .slice ao n' cp := by
            rcases hown'.2 with ⟨e, _⟩ | ⟨g, cap, cur, e, _⟩ <;> exact ⟨_, _, _, e⟩
          obtain ⟨xb2, c', hx, e2, c2⟩ := in_get (HB2.out.1.up (HB2.out.2.2.1.trans hb6)) hlt
          obtain rfl := Option.some.inj hx
          have e3 := HE1.out
          rw [e2] at e3
          obtain rfl := Option.some.inj e3
          clear e2 e3 hx c1
          go_wp2_with fail
          exact ⟨⟨k + 1, by omega, by go_num, by omega, m ++ [c'], ao, n', cp, rfl, one_more hown', hb6, next_plain HE1.out HM.out (.inl fun e => by rw [e] at h10; exact absurd h10 (by decide))⟩, by simp [intOf]; omega⟩
        · go_wp2_with (at_builtin; refine wpList_append_own _ rfl _ _ 22 rfl w4.heap.size 5 i0 (.int .u8 0) 1 1 Tryd.underlying22 HI.out.1 HI.out.2.1 HI.out.2.2.1 HI.out.2.2.2 rfl (by decide) _ _ _ rfl (hown.alloc _) ⟨wr.heap.size, 0, none⟩ 1 1 [.int .u8 c.toNat] rfl rfl ?a1 ?a2 ?a3 ?a4 ?a5 ?_)
          case a1 =>
            intro j u hj
            have hj2 := (List.getElem?_eq_some_iff.1 hj).1
            simp at hj2
            subst hj2
            injection hj with hj
            subst hj
            simp [Addr.add]
          case a2 =>
            intro u hu
            simp at hu
            subst hu
            rfl
          case a3 => rw [Lib.byteCells_length]; unfold maxLen; simp; omega
          case a4 => rw [Lib.byteCells_length]; simp; omega
          case a5 => simp; omega
          intro v' w6 hown' hgrow _
          have hgs := hgrow.size
          have hb6 := (hb.alloc (by omega) _).grown hgrow (by simp; omega) (fun k hk => (hown.lt k hk).1)
          simp at hgs
          obtain ⟨ao, n', cp, rfl⟩ : ∃ ao n' cp, v' = .slice ao n' cp := by
            rcases hown'.2 with ⟨e, _⟩ | ⟨g, cap, cur, e, _⟩ <;> exact ⟨_, _, _, e⟩
          obtain ⟨xb2, c', hx, e2, c2⟩ := in_get (HB2.out.1.up (HB2.out.2.2.1.trans hb6)) hlt
          obtain rfl := Option.some.inj hx
          have e3 := HE1.out
          rw [e2] at e3
          obtain rfl := Option.some.inj e3
          clear e2 e3 hx c1
          go_wp2_with fail
          exact ⟨⟨k + 1, by omega, by go_num, by omega, m ++ [c'], ao, n', cp, rfl, one_more hown', hb6, next_plain HE1.out HM.out (.inr rfl)⟩, by simp [intOf]; omega⟩
      · obtain rfl := all_done hlt HM.out
        obtain ⟨hiw, hlw⟩ := owns_in hown
        rw [Lib.byteCells_length] at hlw
        subst hlw
        have hbx := HB2.out.2.2.1.trans hb
        have hrow := HB2.out.2.1.up hbx
        go_wp2_with fail
        refine (equal_same _ ag a6 cg cap6 _ hrow hiw (by omega)).mono ?_
        rintro e w' ⟨rfl, q, rfl⟩
        go_wp2_with fail
        go_ret
        exact ⟨rfl, (HB2.out.2.2.2.trans (hbx.mono HB2.out.2.2.2.size)).trans ⟨rfl, rfl, rfl, Nat.le_refl _, fun _ _ => rfl⟩⟩

end Go.Proofs.YtalnapcphdmjaaaDoor
