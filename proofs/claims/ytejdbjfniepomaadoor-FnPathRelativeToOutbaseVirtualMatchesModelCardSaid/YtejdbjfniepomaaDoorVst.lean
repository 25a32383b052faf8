/-
  The contracts of zzHasSuffix and zzVirtualStem; conditions: the sizes that they name.
-/
import Derived.Test.YtejdbjfniepomaaDoorMod
import Derived.Deep.QuietTactic
import Derived.BigQuiet
namespace Go.Proofs.YtejdbjfniepomaaDoor
open Go.RowKit

def SufEnd (s q : ByteArray) (w : World) (e : Ending) (w' : World) : Prop := (∃ z, e = .returned (.bool z) ∧ (z = true ↔ q.data.toList <:+ s.data.toList)) ∧ w = w'

theorem suffix_drop {a b : List UInt8} (h : a.length ≤ b.length) : b.drop (b.length - a.length) = a ↔ a <:+ b := by
  constructor
  · intro e
    have := List.take_append_drop (b.length - a.length) b
    rw [e] at this
    exact ⟨_, this⟩
  · rintro ⟨c, rfl⟩
    simp
set_option maxHeartbeats 1000000 in
theorem suf_any (s q : ByteArray) (w : World) (hs : s.size ≤ maxLen) (hq : q.size ≤ maxLen) : Calls Tryd.prog 12 #[.string s, .string q] w (SufEnd s q w) := by
  unfold maxLen at hs hq
  have e1 := Lib.size_eq s
  have e2 := Lib.size_eq q
  by_cases h : q.size ≤ s.size
  · have hsuf := suffix_drop (a := q.data.toList) (b := s.data.toList) (by omega)
    rw [← e1, ← e2, ← from_size] at hsuf
    have HS := Lib.hid hsuf
    clear e1 e2 hsuf
    have h0 : ¬ s.size < q.size := by omega
    cases hz : ((s.extract (s.size - q.size) s.size).toList == q.toList)
    all_goals (
      have HZ := Lib.hid hz
      go_enter Tryd.func12, Tryd.ntmps12
      go_wp2
      go_ret
      refine ⟨⟨_, rfl, ?_⟩, rfl⟩
      have hz := HZ.out
      rw [Lib.toList_data, Lib.toList_data] at hz
      rw [← HS.out])
    · refine ⟨(fun h => by cases h), fun h => ?_⟩
      rw [h] at hz
      simp at hz
    · exact ⟨(fun _ => beq_iff_eq.1 hz), fun _ => rfl⟩
  · have hn : ¬ q.data.toList <:+ s.data.toList := fun hh => h (by rw [e1, e2]; exact hh.length_le)
    have HN := Lib.hid hn
    clear hn e1 e2
    have h0 : s.size < q.size := by omega
    clear h
    go_enter Tryd.func12, Tryd.ntmps12
    go_wp2
    go_ret
    exact ⟨⟨_, rfl, ⟨(fun h => by cases h), fun h => absurd h HN.out⟩⟩, rfl⟩

def StemEnd (t : ByteArray) (av : Bool) (w : World) (e : Ending) (w' : World) : Prop :=
  ((∃ x, e = .returned (.tuple #[.string x, .bool false])) ∨ ∃ x : ByteArray, e = .returned (.tuple #[.string x, .bool true]) ∧ x = S (stemL t.data.toList) ∧ Cov t.data.toList ∧ ¬ (av = true ∧ stemL t.data.toList = IDX)) ∧ w = w'
def SegCut (t : ByteArray) (w : World) (s7 : Value) (wx : World) : Prop := ∃ k : Nat, s7 = .int .i64 k ∧ k ≤ t.size ∧ t.data.toList.drop k = segL t.data.toList ∧ wx = w
def StemCut (l : List UInt8) (w : World) (s10 : Value) (wx : World) : Prop := ∃ x : ByteArray, s10 = .string x ∧ x = S (cutDot l) ∧ wx = w
def NoDotFrom (l : List UInt8) (i : Nat) : Prop := ∀ j b, i ≤ j → l[j]? = some b → b ≠ 46
theorem NoDotFrom.cut_none {l : List UInt8} (h : NoDotFrom l 0) : cutDot l = l := cutDot_none l fun hm => by
  obtain ⟨j, hj⟩ := List.mem_iff_getElem?.1 hm
  exact h j 46 (Nat.zero_le _) hj rfl
theorem NoDotFrom.cut_at {l : List UInt8} {k : Nat} (h : NoDotFrom l (k + 1)) (hk : l[k]? = some 46) : cutDot l = l.take k := by
  obtain ⟨hkl, he⟩ := List.getElem?_eq_some_iff.1 hk
  have e : l = l.take k ++ 46 :: l.drop (k + 1) := by rw [← he, ← List.drop_eq_getElem_cons hkl, List.take_append_drop]
  conv => lhs; rw [e]
  refine cutDot_some _ _ fun hm => ?_
  obtain ⟨j, hj⟩ := List.mem_iff_getElem?.1 hm
  rw [List.getElem?_drop] at hj
  exact h _ 46 (by omega) hj rfl
theorem NoDotFrom.down {l : List UInt8} {i : Nat} {b : UInt8} (h : NoDotFrom l (i + 1)) (hb : l[i]? = some b) (hs : b ≠ 46) : NoDotFrom l i := fun j c hj hc => by
  by_cases e : j = i
  · subst e
    rw [hb] at hc
    obtain rfl := Option.some.inj hc
    exact hs
  · exact h j c (by omega) hc

set_option maxHeartbeats 8000000 in
set_option maxRecDepth 100000 in
theorem stem_any (t : ByteArray) (av : Bool) (w : World) (ht : t.size ≤ 4194304) : Calls Tryd.prog 6 #[.string t, .bool av] w (StemEnd t av w) := by
  have HLEN := Lib.hid (show t.data.toList.length = t.size from (Lib.size_eq t).symm)
  have hget : ∀ k (hk : k < t.size), t.data.toList[k]? = some (t[k]'hk) := fun k hk => Lib.data_getElem? t k hk
  have HG := Lib.hid hget
  clear hget
  -- the last byte
  by_cases hend : ∃ h : 0 < t.size, sepB (t[t.size - 1]'(by omega)) = true
  · obtain ⟨h0, hsep⟩ := hend
    have hc := (sep_iff _).1 hsep
    clear hsep
    have h1 : (0 : Int) < (t.size : Int) := by omega
    obtain ⟨c, hcc⟩ : ∃ c, t[t.size - 1]'(by omega) = c := ⟨_, rfl⟩
    rw [hcc] at hc
    rcases hc with hc | hc
    · have q1 : ((c.toNat : Int) == 47) = true := by rw [hc]; rfl
      clear hc
      go_enter Tryd.func6, Tryd.ntmps6
      go_wp2_with fail
      go_ret2
      exact ⟨.inl ⟨_, rfl⟩, rfl⟩
    · have q1 : ((c.toNat : Int) == 47) = false := by rw [hc]; rfl
      have q2 : ((c.toNat : Int) == 92) = true := by rw [hc]; rfl
      clear hc
      go_enter Tryd.func6, Tryd.ntmps6
      go_wp2_with fail
      go_ret2
      exact ⟨.inl ⟨_, rfl⟩, rfl⟩
  · have hlastok : ∀ c, t.data.toList.getLast? = some c → sepB c = false := by
      intro c hc
      rw [List.getLast?_eq_getElem?, HLEN.out] at hc
      by_cases h0 : 0 < t.size
      · rw [HG.out (t.size - 1) (by omega)] at hc
        obtain rfl := Option.some.inj hc
        cases e : sepB (t[t.size - 1]'(by omega)) with
        | false => rfl
        | true => exact absurd ⟨h0, e⟩ hend
      · have := (List.getElem?_eq_some_iff.1 hc).1
        rw [HLEN.out] at this
        omega
    have HLAST := Lib.hid hlastok
    clear hlastok
    have hq : ∃ z1 z2 : Bool, (∀ h : 0 < t.size, (((t[t.size - 1]'(by omega)).toNat : Int) == 47) = false ∧ (((t[t.size - 1]'(by omega)).toNat : Int) == 92) = false) := by
      refine ⟨true, true, fun h => ?_⟩
      have hs : sepB (t[t.size - 1]'(by omega)) = false := by
        cases e : sepB (t[t.size - 1]'(by omega)) with
        | false => rfl
        | true => exact absurd ⟨h, e⟩ hend
      have hn : ¬ ((t[t.size - 1]'(by omega)).toNat = 47 ∨ (t[t.size - 1]'(by omega)).toNat = 92) := fun hh => by rw [(sep_iff _).2 hh] at hs; cases hs
      exact ⟨beq_eq_false_iff_ne.2 (by omega), beq_eq_false_iff_ne.2 (by omega)⟩
    obtain ⟨_, _, hq⟩ := hq
    clear hend
    go_enter Tryd.func6, Tryd.ntmps6
    go_upto_region 2 with fail
    go_cut [29] (fun s29 wx => s29 = .bool false ∧ wx = w)
    case first =>
      by_cases h0 : 0 < t.size
      · have h1 : (0 : Int) < (t.size : Int) := by omega
        obtain ⟨q1, q2⟩ := hq h0
        go_wp2_with fail
        go_meet
        exact ⟨rfl, rfl⟩
      · go_wp2_with fail
        go_meet
        exact ⟨rfl, rfl⟩
    case rest =>
      obtain ⟨rfl, rfl⟩ := hcut
      clear hq
      go_upto_block 0 with fail
      go_cut [7] (fun s7 wx => SegCut t wc s7 wx)
      case first =>
        go_wp2_with fail
        go_loopg [7, 8] t.size (fun g s7 s8 wx => g ≤ t.size ∧ s7 = .int .i64 0 ∧ s8 = .int .i64 ((g : Int) - 1) ∧ NoSepFrom t.data.toList g ∧ wx = wc)
        case atStart => exact ⟨Nat.le_refl _, rfl, rfl, NoSepFrom.all _ _ (by rw [HLEN.out]; exact Nat.le_refl _), rfl⟩
        case round =>
          obtain ⟨hg, rfl, rfl, hno, rfl⟩ := hrel
          have HN := Lib.hid hno
          clear hno
          cases gk with
          | zero =>
            have e0 : ((0 : Nat) : Int) - 1 = -1 := by decide
            rw [e0]
            clear e0
            go_wp2_with fail
            go_meet
            exact ⟨0, rfl, Nat.zero_le _, (seg_none HN.out).symm, rfl⟩
          | succ g =>
            have e0 : ((g + 1 : Nat) : Int) - 1 = (g : Int) := by omega
            rw [e0]
            clear e0
            have hlt : g < t.size := by omega
            have hx := HG.out g hlt
            obtain ⟨c, hc⟩ : ∃ c, t[g]'hlt = c := ⟨_, rfl⟩
            rw [hc] at hx
            have HX := Lib.hid hx
            clear hx
            have g1 : (g : Int) < (t.size : Int) := by omega
            cases hsep : sepB c
            · have hn : ¬ (c.toNat = 47 ∨ c.toNat = 92) := fun hh => by rw [(sep_iff _).2 hh] at hsep; cases hsep
              have q1 : ((c.toNat : Int) == 47) = false := beq_eq_false_iff_ne.2 (by omega)
              have q2 : ((c.toNat : Int) == 92) = false := beq_eq_false_iff_ne.2 (by omega)
              have HP := Lib.hid hsep
              clear hsep hn
              go_wp2_with fail
              go_roundg g
              case measure => omega
              case rel => exact ⟨by omega, rfl, by rfl, HN.out.down HX.out HP.out, rfl⟩
            · have hn := (sep_iff _).1 hsep
              have HP := Lib.hid hsep
              clear hsep
              rcases hn with hn | hn
              · have q1 : ((c.toNat : Int) == 47) = true := by rw [hn]; rfl
                clear hn
                go_wp2_with fail
                go_meet
                exact ⟨g + 1, by go_num, by omega, (seg_at HX.out HP.out HN.out).symm, rfl⟩
              · have q1 : ((c.toNat : Int) == 47) = false := by rw [hn]; rfl
                have q2 : ((c.toNat : Int) == 92) = true := by rw [hn]; rfl
                clear hn
                go_wp2_with fail
                go_meet
                exact ⟨g + 1, by go_num, by omega, (seg_at HX.out HP.out HN.out).symm, rfl⟩
      case rest =>
        obtain ⟨k, rfl, hk, hseg, rfl⟩ := hcut
        have hsd := from_size t k
        rw [hseg] at hsd
        have hsz := from_sz t k
        have k1 : (k : Int) ≤ (t.size : Int) := by omega
        have hsf := fun wx => suf_any (t.extract k t.size) ⟨#[46, 109, 111, 100, 117, 108, 101, 46, 99, 115, 115]⟩ wx (by unfold maxLen; omega) (by decide)
        have HF := Lib.hid hsf
        have HSD := Lib.hid hsd
        clear hsf hseg hsd
        go_wp2_with fail
        refine (HF.out _).mono ?_
        rintro e w' ⟨⟨z, rfl, hz⟩, rfl⟩
        have HZ := Lib.hid hz
        clear hz
        cases z
        · have hnm : ¬ MODCSS <:+ segL t.data.toList := fun h => by
            have := HZ.out.2 (by rw [HSD.out]; exact h)
            cases this
          have HCOV := Lib.hid (show Cov t.data.toList from ⟨HLAST.out, hnm⟩)
          clear hnm
          obtain ⟨sg, hsg⟩ : ∃ sg, t.extract k t.size = sg := ⟨_, rfl⟩
          rw [hsg] at hsz
          have HSG := Lib.hid (show sg.data.toList = segL t.data.toList by rw [← hsg]; exact HSD.out)
          have HL2 := Lib.hid (show sg.data.toList.length = sg.size from (Lib.size_eq sg).symm)
          have HG2 := Lib.hid (fun k (hk : k < sg.size) => Lib.data_getElem? sg k hk)
          go_upto_block 2 with fail
          go_cut [10] (fun s10 wx => StemCut (segL t.data.toList) wc s10 wx)
          case first =>
            go_wp2_with fail
            go_loopg [10, 11] sg.size (fun g s10 s11 wx => g ≤ sg.size ∧ s10 = .string sg ∧ s11 = .int .i64 ((g : Int) - 1) ∧ NoDotFrom sg.data.toList g ∧ wx = wc)
            case atStart => exact ⟨Nat.le_refl _, by rw [← hsg], rfl, fun j b hj hb => by have := (List.getElem?_eq_some_iff.1 hb).1; rw [HL2.out] at this; omega, rfl⟩
            case round =>
              obtain ⟨hg, rfl, rfl, hno, rfl⟩ := hrel
              have HN := Lib.hid hno
              clear hno
              cases gk with
              | zero =>
                have e0 : ((0 : Nat) : Int) - 1 = -1 := by decide
                rw [e0]
                clear e0
                go_wp2_with fail
                go_meet
                exact ⟨sg, rfl, eq_S (by rw [← HSG.out, HN.out.cut_none]), rfl⟩
              | succ g =>
                have e0 : ((g + 1 : Nat) : Int) - 1 = (g : Int) := by omega
                rw [e0]
                clear e0
                have hlt : g < sg.size := by omega
                have hx := HG2.out g hlt
                obtain ⟨c, hc⟩ : ∃ c, sg[g]'hlt = c := ⟨_, rfl⟩
                rw [hc] at hx
                have HX := Lib.hid hx
                clear hx
                have g1 : (g : Int) < (sg.size : Int) := by omega
                have g2 : (g : Int) ≤ (sg.size : Int) := by omega
                by_cases h46 : c = 46
                · have q1 : ((c.toNat : Int) == 46) = true := by rw [h46]; rfl
                  have H46 := Lib.hid h46
                  clear h46
                  go_wp2_with fail
                  go_meet
                  refine ⟨_, rfl, eq_S ?_, rfl⟩
                  have hd := HX.out
                  rw [H46.out] at hd
                  rw [take_size, ← HSG.out, HN.out.cut_at hd]
                · have q1 : ((c.toNat : Int) == 46) = false := beq_eq_false_iff_ne.2 fun e => h46 (UInt8.toNat_inj.1 (by show c.toNat = 46; omega))
                  have H46 := Lib.hid h46
                  clear h46
                  go_wp2_with fail
                  go_roundg g
                  case measure => omega
                  case rel => exact ⟨by omega, rfl, rfl, HN.out.down HX.out H46.out, rfl⟩
          case rest =>
            obtain ⟨x, rfl, hx, rfl⟩ := hcut
            have HX := Lib.hid (show x = S (stemL t.data.toList) from hx)
            clear hx
            cases av
            · go_wp2_with fail
              go_ret2
              exact ⟨.inr ⟨x, rfl, HX.out, HCOV.out, fun h => by cases h.1⟩, rfl⟩
            · cases hI : (x.toList == [105, 110, 100, 101, 120])
              · have HI := Lib.hid hI
                go_wp2_with fail
                go_ret2
                refine ⟨.inr ⟨x, rfl, HX.out, HCOV.out, fun h => ?_⟩, rfl⟩
                have := HI.out
                rw [HX.out, S_toList, h.2] at this
                cases this
              · go_wp2_with fail
                go_ret2
                exact ⟨.inl ⟨_, rfl⟩, rfl⟩
        · go_wp2_with fail
          go_ret2
          exact ⟨.inl ⟨_, rfl⟩, rfl⟩

end Go.Proofs.YtejdbjfniepomaaDoor
