/-
  The walk of the law fnLogPluginMessagesVerdictAndCounts: it returns true; conditions: those that it names.
-/
import Derived.Test.YtbbopdkgnolpoaaFmtPrt
import Derived.Test.YtbbopdkgnolpoaaFmtZzl
import Derived.Test.YtbbopdkgnolpoaaFmtGrd
namespace Go.Proofs.YtbbopdkgnolpoaaFmt
open Go.RowKit

def ARel (name : ByteArray) (hth : Bool) (ms : List Mg) (n g : Nat) (w : World) (s13 s14 s15 s16 : Value) (wr : World) : Prop :=
  ∃ k : Nat, s13 = .bool (hth || anyE (ms.take k)) ∧ s14 = .int .i64 ((ms.take k).countP isE : Nat) ∧ s15 = .int .i64 ((ms.take k).countP (named name) : Nat) ∧ s16 = .int .i64 k ∧ k ≤ n ∧ Row wr g 33 (n * 8) (partM ms k) ∧ Below w.heap.size w wr
theorem arel_next {name : ByteArray} {hth : Bool} {ms : List Mg} {n g k : Nat} {w wr W : World} {m : Mg} {vE vN : Nat} {vV : Bool} (hm : ms[k]? = some m) (hk : k < n) (hr : Row wr g 33 (n * 8) (partM ms k)) (hb : Below w.heap.size w wr) (hg : w.heap.size ≤ g)
    (hW : W = (((((((wr.setCell ⟨g, k * 8, none⟩ (.slice none 0 0)).setCell ⟨g, k * 8 + 1, none⟩ (.string m.nm)).setCell ⟨g, k * 8 + 2, none⟩ (udV m.ud)).setCell ⟨g, k * 8 + 3, none⟩ (.pointer none)).setCell ⟨g, k * 8 + 4, none⟩ (.string m.tx)).setCell ⟨g, k * 8 + 5, none⟩ (.bool false)).setCell ⟨g, k * 8 + 6, none⟩ (.int .u8 m.kd)).setCell ⟨g, k * 8 + 7, none⟩ (.int .u8 0))
    (h1 : vV = ((hth || anyE (ms.take k)) || (m.kd == 0))) (h2 : vE = (ms.take k).countP isE + if isE m then 1 else 0) (h3 : vN = (ms.take k).countP (named name) + if named name m then 1 else 0) :
    ARel name hth ms n g w (.bool vV) (.int .i64 vE) (.int .i64 vN) (.int .i64 ((k : Int) + 1)) W := by
  refine ⟨k + 1, ?_, ?_, ?_, by go_num, by omega, ?_, ?_⟩
  · rw [h1, anyE_next hm, Bool.or_assoc]
  · rw [h2, count_next' hm]
  · rw [h3, count_next' hm]
  · rw [hW]
    exact ((((((((hr.set _ _).set _ _).set _ _).set _ _).set _ _).set _ _).set _ _).set _ _).congr fun j _ => part_step hm j
  · rw [hW]
    exact (((((((hb.setCell hg _).setCell hg _).setCell hg _).setCell hg _).setCell hg _).setCell hg _).setCell hg _).setCell hg _
def BRel (name : ByteArray) (ds : List Mg) (w6 : World) (s23 s24 s25 : Value) (wx : World) : Prop := wx = w6 ∧ ∃ k : Nat, s23 = .int .i64 ((ds.take k).countP isE : Nat) ∧ s24 = .int .i64 ((ds.take k).countP (hasNm name) : Nat) ∧ s25 = .int .i64 k ∧ k ≤ ds.length
theorem info33' : (Tryf.prog.info? 33).map (fun i => (i.zero, i.size, i.bytes)) = some (some (.agg #[.slice none 0 0, .string ⟨#[]⟩, .nilIface, .pointer none, .string ⟨#[]⟩, .bool false, .int .u8 0, .int .u8 0]), 8, 96) := info33

set_option maxHeartbeats 8000000 in
set_option maxRecDepth 100000 in
theorem fnLogPluginMessagesVerdictAndCounts_walk (name : ByteArray) (a1 : Option Addr) (l1 c1 : Nat) (bs : List Bool) (a2 : Option Addr) (l2 c2 : Nat) (ss : List ByteArray) (hth : Bool) (t : ByteArray) (w : World) (h0 : name.size ≤ maxLen) (h1 : InRow w a1 l1 c1 (bs.map Value.bool)) (h2 : InRow w a2 l2 c2 (ss.map Value.string)) (h3 : t.size ≤ maxLen) (hs : ∀ s ∈ ss, s.size ≤ maxLen) :
    Calls Tryf.prog 3 #[.string name, .slice a1 l1 c1, .slice a2 l2 c2, .bool hth, .string t] w fun e w' => e = .returned (.bool true) ∧ Below w.heap.size w w' := by
  have hlen1 := h1.len
  have hlen2 := h2.len
  rw [List.length_map] at hlen1 hlen2
  have hcap1 := h1.cap
  have hcap2 := h2.cap
  obtain ⟨i0, hi, hz0, hz1, hz2⟩ := info_parts info33'
  have HI := Lib.hid (And.intro hi (And.intro hz0 (And.intro hz1 hz2)))
  have HB := Lib.hid (bytes_any name a1 l1 c1 bs a2 l2 c2 ss hth t w h0 h1 h2 h3 hs)
  have HO := Lib.hid (sizeOK_any name a1 l1 c1 bs a2 l2 c2 ss t w h0 h1 h2 h3 hs)
  have H1 := Lib.hid h1
  have H2 := Lib.hid h2
  have HL := Lib.hid (And.intro hlen1 hlen2)
  clear hi hz0 hz1 hz2 h0 h1 h2 h3 hs hlen1 hlen2
  unfold maxLen at hcap1 hcap2
  obtain ⟨hc1, hc2⟩ := hcap1
  obtain ⟨hc3, hc4⟩ := hcap2
  go_enter Tryf.func3, Tryf.ntmps3
  go_wp2_with fail
  refine HB.out.mono ?_
  rintro e w' ⟨b, rfl, rfl, hb⟩
  clear hb
  cases b
  · go_wp2_with fail
    go_ret
    exact ⟨rfl, Below.refl _ _⟩
  go_wp2_with fail
  refine HO.out.mono ?_
  rintro e w' ⟨b, rfl, rfl, hb⟩
  cases b
  · clear hb
    go_wp2_with fail
    go_ret
    exact ⟨rfl, Below.refl _ _⟩
  have hl1 := hb rfl
  clear hb
  obtain ⟨ms, hms⟩ : ∃ ms, ms = mkMs bs ss := ⟨_, rfl⟩
  have hmn : ms.length = l1 := by rw [hms, mkMs_len]; exact HL.out.1
  have hat : ∀ (k : Nat) (b : Bool), bs[k]? = some b → ms[k]? = some (mkM ss k b) := fun k b hb => by rw [hms]; exact mkMs_at hb
  have hpl : ∀ m ∈ ms, Plain m := by rw [hms]; exact mkMs_plain bs ss
  have HM := Lib.hid (And.intro hmn (And.intro hat hpl))
  clear hms hmn hat hpl HB HO
  go_upto_region 7 with (at_make; refine wpList_make_full _ rfl (.tmp 41) (.tmp 41) 26 rfl w.heap.size 33 i0 (.agg #[.slice none 0 0, .string ⟨#[]⟩, .nilIface, .pointer none, .string ⟨#[]⟩, .bool false, .int .u8 0, .int .u8 0]) 8 Tryf.underlying26 HI.out.1 HI.out.2.1 HI.out.2.2.1 _ _ _ _ l1 rfl rfl rfl rfl (by rw [HI.out.2.2.2]; omega) (by unfold maxLen; omega) (Nat.le_refl _) ?_; intro w2 hown hgrow)
  have r0 : Row w2 w.heap.size 33 (l1 * 8) (partM ms 0) := row_made (size := 8) rfl (by decide) _ (fun i _ => part_zero ms i) hown
  have hb2 : Below w.heap.size w w2 := (Below.refl _ _).grown hgrow (Nat.le_refl _) (fun k hk => by cases hk)
  have HR := Lib.hid (And.intro r0 hb2)
  clear r0 hb2 hown hgrow
  go_wp2_with fail
  go_loopw [13, 14, 15, 16] (fun s13 s14 s15 s16 wr => ARel name hth ms l1 w.heap.size w s13 s14 s15 s16 wr) (fun _ _ _ s16 _ => l1 - (intOf s16).toNat)
  case atStart => exact ⟨0, by simp [anyE], by simp, by simp, rfl, Nat.zero_le _, HR.out.1, HR.out.2⟩
  case round =>
    obtain ⟨k, rfl, rfl, rfl, rfl, hk, hr, hbw⟩ := hrel
    have hle1 := count_le ms k isE
    have hle2 := count_le ms k (named name)
    obtain ⟨nE, hnE⟩ : ∃ x, (ms.take k).countP isE = x := ⟨_, rfl⟩
    obtain ⟨nN, hnN⟩ : ∃ x, (ms.take k).countP (named name) = x := ⟨_, rfl⟩
    obtain ⟨vd, hvd⟩ : ∃ x, (hth || anyE (ms.take k)) = x := ⟨_, rfl⟩
    rw [hnE] at hle1 ⊢
    rw [hnN] at hle2 ⊢
    rw [hvd]
    have HK := Lib.hid (And.intro hnE (And.intro hnN (And.intro hvd (And.intro hr hbw))))
    have hrl := hr.lt
    clear hnE hnN hvd
    by_cases hlt : k < l1
    · obtain ⟨x, b, rfl, hbk, hc⟩ := (H1.out.up hbw).get hlt
      have hmk := HM.out.2.1 k b hbk
      have c0 := hr.cell (i := k * 8) (by omega)
      have c1' := hr.cell (i := k * 8 + 1) (by omega)
      have c2' := hr.cell (i := k * 8 + 2) (by omega)
      have c3 := hr.cell (i := k * 8 + 3) (by omega)
      have c4 := hr.cell (i := k * 8 + 4) (by omega)
      have c5 := hr.cell (i := k * 8 + 5) (by omega)
      have c6 := hr.cell (i := k * 8 + 6) (by omega)
      have c7 := hr.cell (i := k * 8 + 7) (by omega)
      have f0 := hr.frozen (k * 8)
      have f1 := hr.frozen (k * 8 + 1)
      have f2 := hr.frozen (k * 8 + 2)
      have f3 := hr.frozen (k * 8 + 3)
      have f4 := hr.frozen (k * 8 + 4)
      have f5 := hr.frozen (k * 8 + 5)
      have f6 := hr.frozen (k * 8 + 6)
      have f7 := hr.frozen (k * 8 + 7)
      have HMK := Lib.hid hmk
      clear hr hmk hbk
      by_cases hk2 : k < l2
      · obtain ⟨y, s, hy, hsk, hd⟩ := (H2.out.up hbw).get hk2
        subst hy
        have HS := Lib.hid hsk
        clear hsk hbw
        cases q1 : s.toList.isEmpty
        · cases q2 : (s.toList == name.toList)
          · cases b
            · go_wp2_with fail
              obtain ⟨W, hW⟩ : ∃ W, W = (((((((wr.setCell ⟨w.heap.size, k * 8, none⟩ (.slice none 0 0)).setCell ⟨w.heap.size, k * 8 + 1, none⟩ (.string s)).setCell ⟨w.heap.size, k * 8 + 2, none⟩ .nilIface).setCell ⟨w.heap.size, k * 8 + 3, none⟩ (.pointer none)).setCell ⟨w.heap.size, k * 8 + 4, none⟩ (.string ⟨#[109]⟩)).setCell ⟨w.heap.size, k * 8 + 5, none⟩ (.bool false)).setCell ⟨w.heap.size, k * 8 + 6, none⟩ (.int .u8 1)).setCell ⟨w.heap.size, k * 8 + 7, none⟩ (.int .u8 0) := ⟨_, rfl⟩
              rw [← hW]
              go_roundw
              case rel => exact arel_next (vE := nE) (vN := nN) HMK.out hlt HK.out.2.2.2.1 HK.out.2.2.2.2 (Nat.le_refl _) (by rw [hW]; simp [mkM, udV, HS.out]) (by rw [HK.out.2.2.1]; simp [mkM]) (by rw [HK.out.1]; simp [mkM, isE]) (by rw [HK.out.2.1]; simp [mkM, named, HS.out, q1, q2])
              case measure => simp [intOf]; omega
            · go_wp2_with fail
              obtain ⟨W, hW⟩ : ∃ W, W = (((((((wr.setCell ⟨w.heap.size, k * 8, none⟩ (.slice none 0 0)).setCell ⟨w.heap.size, k * 8 + 1, none⟩ (.string s)).setCell ⟨w.heap.size, k * 8 + 2, none⟩ .nilIface).setCell ⟨w.heap.size, k * 8 + 3, none⟩ (.pointer none)).setCell ⟨w.heap.size, k * 8 + 4, none⟩ (.string ⟨#[109]⟩)).setCell ⟨w.heap.size, k * 8 + 5, none⟩ (.bool false)).setCell ⟨w.heap.size, k * 8 + 6, none⟩ (.int .u8 0)).setCell ⟨w.heap.size, k * 8 + 7, none⟩ (.int .u8 0) := ⟨_, rfl⟩
              rw [← hW]
              go_roundw
              case rel => exact arel_next (vE := nE + 1) (vN := nN) HMK.out hlt HK.out.2.2.2.1 HK.out.2.2.2.2 (Nat.le_refl _) (by rw [hW]; simp [mkM, udV, HS.out]) (by rw [HK.out.2.2.1]; simp [mkM]) (by rw [HK.out.1]; simp [mkM, isE]) (by rw [HK.out.2.1]; simp [mkM, named, HS.out, q1, q2])
              case measure => simp [intOf]; omega
          · cases b
            · go_wp2_with fail
              obtain ⟨W, hW⟩ : ∃ W, W = (((((((wr.setCell ⟨w.heap.size, k * 8, none⟩ (.slice none 0 0)).setCell ⟨w.heap.size, k * 8 + 1, none⟩ (.string s)).setCell ⟨w.heap.size, k * 8 + 2, none⟩ .nilIface).setCell ⟨w.heap.size, k * 8 + 3, none⟩ (.pointer none)).setCell ⟨w.heap.size, k * 8 + 4, none⟩ (.string ⟨#[109]⟩)).setCell ⟨w.heap.size, k * 8 + 5, none⟩ (.bool false)).setCell ⟨w.heap.size, k * 8 + 6, none⟩ (.int .u8 1)).setCell ⟨w.heap.size, k * 8 + 7, none⟩ (.int .u8 0) := ⟨_, rfl⟩
              rw [← hW]
              go_roundw
              case rel => exact arel_next (vE := nE) (vN := nN + 1) HMK.out hlt HK.out.2.2.2.1 HK.out.2.2.2.2 (Nat.le_refl _) (by rw [hW]; simp [mkM, udV, HS.out]) (by rw [HK.out.2.2.1]; simp [mkM]) (by rw [HK.out.1]; simp [mkM, isE]) (by rw [HK.out.2.1]; simp [mkM, named, HS.out, q1, q2])
              case measure => simp [intOf]; omega
            · go_wp2_with fail
              obtain ⟨W, hW⟩ : ∃ W, W = (((((((wr.setCell ⟨w.heap.size, k * 8, none⟩ (.slice none 0 0)).setCell ⟨w.heap.size, k * 8 + 1, none⟩ (.string s)).setCell ⟨w.heap.size, k * 8 + 2, none⟩ .nilIface).setCell ⟨w.heap.size, k * 8 + 3, none⟩ (.pointer none)).setCell ⟨w.heap.size, k * 8 + 4, none⟩ (.string ⟨#[109]⟩)).setCell ⟨w.heap.size, k * 8 + 5, none⟩ (.bool false)).setCell ⟨w.heap.size, k * 8 + 6, none⟩ (.int .u8 0)).setCell ⟨w.heap.size, k * 8 + 7, none⟩ (.int .u8 0) := ⟨_, rfl⟩
              rw [← hW]
              go_roundw
              case rel => exact arel_next (vE := nE + 1) (vN := nN + 1) HMK.out hlt HK.out.2.2.2.1 HK.out.2.2.2.2 (Nat.le_refl _) (by rw [hW]; simp [mkM, udV, HS.out]) (by rw [HK.out.2.2.1]; simp [mkM]) (by rw [HK.out.1]; simp [mkM, isE]) (by rw [HK.out.2.1]; simp [mkM, named, HS.out, q1, q2])
              case measure => simp [intOf]; omega
        · cases b
          · go_wp2_with fail
            obtain ⟨W, hW⟩ : ∃ W, W = (((((((wr.setCell ⟨w.heap.size, k * 8, none⟩ (.slice none 0 0)).setCell ⟨w.heap.size, k * 8 + 1, none⟩ (.string s)).setCell ⟨w.heap.size, k * 8 + 2, none⟩ .nilIface).setCell ⟨w.heap.size, k * 8 + 3, none⟩ (.pointer none)).setCell ⟨w.heap.size, k * 8 + 4, none⟩ (.string ⟨#[109]⟩)).setCell ⟨w.heap.size, k * 8 + 5, none⟩ (.bool false)).setCell ⟨w.heap.size, k * 8 + 6, none⟩ (.int .u8 1)).setCell ⟨w.heap.size, k * 8 + 7, none⟩ (.int .u8 0) := ⟨_, rfl⟩
            rw [← hW]
            go_roundw
            case rel => exact arel_next (vE := nE) (vN := nN + 1) HMK.out hlt HK.out.2.2.2.1 HK.out.2.2.2.2 (Nat.le_refl _) (by rw [hW]; simp [mkM, udV, HS.out]) (by rw [HK.out.2.2.1]; simp [mkM]) (by rw [HK.out.1]; simp [mkM, isE]) (by rw [HK.out.2.1]; simp [mkM, named, HS.out, q1])
            case measure => simp [intOf]; omega
          · go_wp2_with fail
            obtain ⟨W, hW⟩ : ∃ W, W = (((((((wr.setCell ⟨w.heap.size, k * 8, none⟩ (.slice none 0 0)).setCell ⟨w.heap.size, k * 8 + 1, none⟩ (.string s)).setCell ⟨w.heap.size, k * 8 + 2, none⟩ .nilIface).setCell ⟨w.heap.size, k * 8 + 3, none⟩ (.pointer none)).setCell ⟨w.heap.size, k * 8 + 4, none⟩ (.string ⟨#[109]⟩)).setCell ⟨w.heap.size, k * 8 + 5, none⟩ (.bool false)).setCell ⟨w.heap.size, k * 8 + 6, none⟩ (.int .u8 0)).setCell ⟨w.heap.size, k * 8 + 7, none⟩ (.int .u8 0) := ⟨_, rfl⟩
            rw [← hW]
            go_roundw
            case rel => exact arel_next (vE := nE + 1) (vN := nN + 1) HMK.out hlt HK.out.2.2.2.1 HK.out.2.2.2.2 (Nat.le_refl _) (by rw [hW]; simp [mkM, udV, HS.out]) (by rw [HK.out.2.2.1]; simp [mkM]) (by rw [HK.out.1]; simp [mkM, isE]) (by rw [HK.out.2.1]; simp [mkM, named, HS.out, q1])
            case measure => simp [intOf]; omega
      · have HZ := Lib.hid (List.getElem?_eq_none (l := ss) (i := k) (by have := HL.out.2; omega))
        clear hbw
        cases b
        · go_wp2_with fail
          obtain ⟨W, hW⟩ : ∃ W, W = (((((((wr.setCell ⟨w.heap.size, k * 8, none⟩ (.slice none 0 0)).setCell ⟨w.heap.size, k * 8 + 1, none⟩ (.string ⟨#[]⟩)).setCell ⟨w.heap.size, k * 8 + 2, none⟩ .nilIface).setCell ⟨w.heap.size, k * 8 + 3, none⟩ (.pointer none)).setCell ⟨w.heap.size, k * 8 + 4, none⟩ (.string ⟨#[109]⟩)).setCell ⟨w.heap.size, k * 8 + 5, none⟩ (.bool false)).setCell ⟨w.heap.size, k * 8 + 6, none⟩ (.int .u8 1)).setCell ⟨w.heap.size, k * 8 + 7, none⟩ (.int .u8 0) := ⟨_, rfl⟩
          rw [← hW]
          go_roundw
          case rel => exact arel_next (vE := nE) (vN := nN + 1) HMK.out hlt HK.out.2.2.2.1 HK.out.2.2.2.2 (Nat.le_refl _) (by rw [hW]; simp [mkM, udV, HZ.out]) (by rw [HK.out.2.2.1]; simp [mkM]) (by rw [HK.out.1]; simp [mkM, isE]) (by rw [HK.out.2.1]; simp [mkM, named, HZ.out])
          case measure => simp [intOf]; omega
        · go_wp2_with fail
          obtain ⟨W, hW⟩ : ∃ W, W = (((((((wr.setCell ⟨w.heap.size, k * 8, none⟩ (.slice none 0 0)).setCell ⟨w.heap.size, k * 8 + 1, none⟩ (.string ⟨#[]⟩)).setCell ⟨w.heap.size, k * 8 + 2, none⟩ .nilIface).setCell ⟨w.heap.size, k * 8 + 3, none⟩ (.pointer none)).setCell ⟨w.heap.size, k * 8 + 4, none⟩ (.string ⟨#[109]⟩)).setCell ⟨w.heap.size, k * 8 + 5, none⟩ (.bool false)).setCell ⟨w.heap.size, k * 8 + 6, none⟩ (.int .u8 0)).setCell ⟨w.heap.size, k * 8 + 7, none⟩ (.int .u8 0) := ⟨_, rfl⟩
          rw [← hW]
          go_roundw
          case rel => exact arel_next (vE := nE + 1) (vN := nN + 1) HMK.out hlt HK.out.2.2.2.1 HK.out.2.2.2.2 (Nat.le_refl _) (by rw [hW]; simp [mkM, udV, HZ.out]) (by rw [HK.out.2.2.1]; simp [mkM]) (by rw [HK.out.1]; simp [mkM, isE]) (by rw [HK.out.2.1]; simp [mkM, named, HZ.out])
          case measure => simp [intOf]; omega
    · obtain rfl : k = l1 := by omega
      have hall : ms.take k = ms := List.take_of_length_le (by rw [HM.out.1]; exact Nat.le_refl _)
      have hke := HK.out
      rw [hall] at hke
      clear hr hbw hall
      cases hth
      · have HE := Lib.hid (And.intro hke.1 (And.intro hke.2.1 (And.intro (show (anyE ms || false) = vd by rw [← hke.2.2.1, Bool.or_comm]) (And.intro HK.out.2.2.2.1 HK.out.2.2.2.2))))
        clear hke HK
        go_upto_region 29 with fail
        go_wp2_with fail
        refine (new_log _).mono ?_
        rintro e w3 ⟨bk, bu, bh, bm, rfl, hl3, g1, g2, g3, hb3⟩
        have hz3 := hb3.size
        have HL3 := Lib.hid (And.intro hl3 hb3)
        clear hl3 hb3
        unfold logV
        go_upto_region 30 with fail
        obtain ⟨w4, hw4⟩ : ∃ w4, w4 = w3.alloc (.cells #[.func (.func 8) #[] #[.pointer (some ⟨bk, 0, none⟩), .pointer (some ⟨bu, 0, none⟩), .pointer (some ⟨bh, 0, none⟩), .pointer (some ⟨bm, 0, none⟩)], .func (.func 11) #[] #[.pointer (some ⟨bu, 0, none⟩), .pointer (some ⟨bh, 0, none⟩)], .func (.func 12) #[] #[.pointer (some ⟨bu, 0, none⟩), .pointer (some ⟨bm, 0, none⟩)], .func (.func 13) #[] #[.pointer (some ⟨bu, 0, none⟩), .pointer (some ⟨bm, 0, none⟩)], .int .i8 3, .map none] 41) := ⟨_, rfl⟩
        have x4 : BoxAt bk bu bh bm w3.heap.size w4 := by rw [hw4]; exact heap_alloc_new w3 _
        have hb4 : Below w3.heap.size w3 w4 := by rw [hw4]; exact (Below.refl _ _).alloc (Nat.le_refl _) _
        have s4 : w4.heap.size = w3.heap.size + 1 := by rw [hw4]; simp
        rw [← hw4]
        have hb34 := HL3.out.2.trans (hb4.mono hz3)
        have H4 := Lib.hid (And.intro x4 (And.intro hb34 (HL3.out.1.kept hb4)))
        have q0 := Lib.cell_of_heap x4 0
        have q1 := Lib.cell_of_heap x4 1
        have q2 := Lib.cell_of_heap x4 2
        have q3 := Lib.cell_of_heap x4 3
        have q4 := Lib.cell_of_heap x4 4
        have q5 := Lib.cell_of_heap x4 5
        simp only [List.getElem?_toArray, List.getElem?_cons_zero, List.getElem?_cons_succ] at q0 q1 q2 q3 q4 q5
        clear hw4 x4 hb4 hb34
        go_upto_region 31 with (go_at_call 7; refine (zzl_any wr.heap.size bk bm bu bh w.heap.size k name ms k false t w4 H4.out.2.2 (by omega) g1 g2 g3 ((mrow_part HE.out.2.2.2.1 HM.out.1).below H4.out.2.1 hrl) hrl HM.out.1 hl1 HM.out.2.2).mono ?_; rintro e w5 ⟨he, pb, he5, hl5, hk5⟩; obtain rfl : e = .returned (.bool vd) := (by rw [he5, HE.out.2.2.1]))
        have x5 := hk5.cells H4.out.2.2 H4.out.1 (by decide) (by decide) (by decide) (by decide)
        have p3 := Lib.cell_of_heap x5 3
        simp only [List.getElem?_toArray, List.getElem?_cons_zero, List.getElem?_cons_succ] at p3
        obtain ⟨ds, hds⟩ : ∃ ds, ds = endM name ms false pb t := ⟨_, rfl⟩
        rw [← hds] at hl5
        have dl : ds.length = k := by rw [hds, end_len, HM.out.1]; rfl
        have dE : ds.countP isE = nE := by rw [hds, end_e, HE.out.1]; rfl
        have dN : ds.countP (hasNm name) = nN := by rw [hds, end_n, HE.out.2.1]; rfl
        have dl1 : ds.length ≤ 65536 := by omega
        have H5 := Lib.hid (And.intro hl5 (And.intro hk5 (And.intro dl (And.intro dE dN))))
        clear he5 hl5 hk5 x5 hds dl dE dN q0 q1 q2 q3 q4 q5
        go_upto_region 32 with (go_at_call 13; refine (done_any wr.heap.size bk bm bu bh he ds w5 H5.out.1 dl1).mono ?_; rintro e w6 ⟨v, rfl, hv6, hk6⟩)
        have hb6 : Below wr.heap.size wr w6 := H4.out.2.1.trans ((H5.out.2.1.trans hk6).belowB (by omega) g1 g2 g3)
        have hbw6 := HE.out.2.2.2.2.trans (hb6.mono (by omega))
        have HV := Lib.hid (And.intro hv6 hbw6)
        have hcases := own_cases hv6
        clear p3 hv6 hk6 hb6 hbw6
        obtain ⟨a9, c9, rfl⟩ : ∃ a c, v = .slice a (k) c := by
          have hdl := H5.out.2.2.1
          rcases hcases with ⟨rfl, h0⟩ | ⟨g, cap, rfl, _, _⟩
          · exact ⟨none, 0, by rw [← hdl, h0]⟩
          · exact ⟨_, _, by rw [← hdl]⟩
        clear hcases
        go_upto_region 37 with fail
        go_wp2_with fail
        go_loopw [23, 24, 25] (fun s23 s24 s25 wx => BRel name ds w6 s23 s24 s25 wx) (fun _ _ s25 _ => k - (intOf s25).toNat)
        case atStart => exact ⟨rfl, 0, by simp, by simp, rfl, Nat.zero_le _⟩
        case round =>
          obtain ⟨rfl, k2, rfl, rfl, rfl, hk2⟩ := hrel
          have hd1 := count_le ds k2 isE
          have hd2 := count_le ds k2 (hasNm name)
          obtain ⟨mE, hmE⟩ : ∃ x, (ds.take k2).countP isE = x := ⟨_, rfl⟩
          obtain ⟨mN, hmN⟩ : ∃ x, (ds.take k2).countP (hasNm name) = x := ⟨_, rfl⟩
          rw [hmE] at hd1 ⊢
          rw [hmN] at hd2 ⊢
          have hk2' : k2 ≤ k := by have := H5.out.2.2.1; omega
          have HX := Lib.hid (And.intro hmE hmN)
          clear hmE hmN hk2
          by_cases hlt2 : k2 < k
          · obtain ⟨d, hd⟩ : ∃ d, ds[k2]? = some d := ⟨_, List.getElem?_eq_getElem (by have := H5.out.2.2.1; omega)⟩
            obtain ⟨g, hg⟩ : ∃ g, a9 = some ⟨g, 0, none⟩ := by
              rcases own_cases HV.out.1 with ⟨_, h0⟩ | ⟨g, cap, e, _⟩
              · have := H5.out.2.2.1
                omega
              · injection e with e _ _
                exact ⟨g, e⟩
            subst hg
            have hvv := HV.out.1
            rw [H5.out.2.2.1] at hvv
            obtain ⟨_, e1, _, _, _, _, e6, _⟩ := (mrow_of hvv).at hd
            have n1 := count_next' hd isE
            have n2 := count_next' hd (hasNm name)
            rw [HX.out.1] at n1
            rw [HX.out.2] at n2
            have HN := Lib.hid (And.intro n1 (And.intro n2 (mrow_of hvv)))
            clear n1 n2 hd hvv
            cases t1 : (d.kd == 0)
            · cases t2 : (d.nm.toList == name.toList)
              · go_wp2_with fail
                go_roundw
                case rel => exact ⟨rfl, k2 + 1, by rw [HN.out.1]; simp [isE, t1], by rw [HN.out.2.1]; simp [hasNm, t2], by go_num, by have := H5.out.2.2.1; omega⟩
                case measure => simp [intOf]; omega
              · go_wp2_with fail
                go_roundw
                case rel => exact ⟨rfl, k2 + 1, by rw [HN.out.1]; simp [isE, t1], by rw [HN.out.2.1]; simp [hasNm, t2], by go_num, by have := H5.out.2.2.1; omega⟩
                case measure => simp [intOf]; omega
            · cases t2 : (d.nm.toList == name.toList)
              · go_wp2_with fail
                go_roundw
                case rel => exact ⟨rfl, k2 + 1, by rw [HN.out.1]; simp [isE, t1], by rw [HN.out.2.1]; simp [hasNm, t2], by go_num, by have := H5.out.2.2.1; omega⟩
                case measure => simp [intOf]; omega
              · go_wp2_with fail
                go_roundw
                case rel => exact ⟨rfl, k2 + 1, by rw [HN.out.1]; simp [isE, t1], by rw [HN.out.2.1]; simp [hasNm, t2], by go_num, by have := H5.out.2.2.1; omega⟩
                case measure => simp [intOf]; omega
          · obtain rfl : k = k2 := by omega
            have hall : ds.take (k) = ds := List.take_of_length_le (by have := H5.out.2.2.1; omega)
            have z1 : mE = nE := by rw [← HX.out.1, hall]; exact H5.out.2.2.2.1
            have z2 : mN = nN := by rw [← HX.out.2, hall]; exact H5.out.2.2.2.2
            clear hall
            subst z1 z2
            go_wp2_with fail
            go_ret
            exact ⟨rfl, HV.out.2⟩
      · have HE := Lib.hid (And.intro hke.1 (And.intro hke.2.1 (And.intro (show (anyE ms || true) = vd by rw [← hke.2.2.1, Bool.or_comm]) (And.intro HK.out.2.2.2.1 HK.out.2.2.2.2))))
        clear hke HK
        go_upto_region 29 with fail
        go_wp2_with fail
        refine (new_log _).mono ?_
        rintro e w3 ⟨bk, bu, bh, bm, rfl, hl3, g1, g2, g3, hb3⟩
        have hz3 := hb3.size
        have HL3 := Lib.hid (And.intro hl3 hb3)
        clear hl3 hb3
        unfold logV
        go_upto_region 30 with fail
        obtain ⟨w4, hw4⟩ : ∃ w4, w4 = w3.alloc (.cells #[.func (.func 8) #[] #[.pointer (some ⟨bk, 0, none⟩), .pointer (some ⟨bu, 0, none⟩), .pointer (some ⟨bh, 0, none⟩), .pointer (some ⟨bm, 0, none⟩)], .func (.func 11) #[] #[.pointer (some ⟨bu, 0, none⟩), .pointer (some ⟨bh, 0, none⟩)], .func (.func 12) #[] #[.pointer (some ⟨bu, 0, none⟩), .pointer (some ⟨bm, 0, none⟩)], .func (.func 13) #[] #[.pointer (some ⟨bu, 0, none⟩), .pointer (some ⟨bm, 0, none⟩)], .int .i8 3, .map none] 41) := ⟨_, rfl⟩
        have x4 : BoxAt bk bu bh bm w3.heap.size w4 := by rw [hw4]; exact heap_alloc_new w3 _
        have hb4 : Below w3.heap.size w3 w4 := by rw [hw4]; exact (Below.refl _ _).alloc (Nat.le_refl _) _
        have s4 : w4.heap.size = w3.heap.size + 1 := by rw [hw4]; simp
        rw [← hw4]
        have hb34 := HL3.out.2.trans (hb4.mono hz3)
        have H4 := Lib.hid (And.intro x4 (And.intro hb34 (HL3.out.1.kept hb4)))
        have q0 := Lib.cell_of_heap x4 0
        have q1 := Lib.cell_of_heap x4 1
        have q2 := Lib.cell_of_heap x4 2
        have q3 := Lib.cell_of_heap x4 3
        have q4 := Lib.cell_of_heap x4 4
        have q5 := Lib.cell_of_heap x4 5
        simp only [List.getElem?_toArray, List.getElem?_cons_zero, List.getElem?_cons_succ] at q0 q1 q2 q3 q4 q5
        clear hw4 x4 hb4 hb34
        go_upto_region 31 with (go_at_call 7; refine (zzl_any wr.heap.size bk bm bu bh w.heap.size k name ms k true t w4 H4.out.2.2 (by omega) g1 g2 g3 ((mrow_part HE.out.2.2.2.1 HM.out.1).below H4.out.2.1 hrl) hrl HM.out.1 hl1 HM.out.2.2).mono ?_; rintro e w5 ⟨he, pb, he5, hl5, hk5⟩; obtain rfl : e = .returned (.bool vd) := (by rw [he5, HE.out.2.2.1]))
        have x5 := hk5.cells H4.out.2.2 H4.out.1 (by decide) (by decide) (by decide) (by decide)
        have p3 := Lib.cell_of_heap x5 3
        simp only [List.getElem?_toArray, List.getElem?_cons_zero, List.getElem?_cons_succ] at p3
        obtain ⟨ds, hds⟩ : ∃ ds, ds = endM name ms true pb t := ⟨_, rfl⟩
        rw [← hds] at hl5
        have dl : ds.length = k + 1 := by rw [hds, end_len, HM.out.1]; rfl
        have dE : ds.countP isE = nE + 1 := by rw [hds, end_e, HE.out.1]; rfl
        have dN : ds.countP (hasNm name) = nN + 1 := by rw [hds, end_n, HE.out.2.1]; rfl
        have dl1 : ds.length ≤ 65536 := by omega
        have H5 := Lib.hid (And.intro hl5 (And.intro hk5 (And.intro dl (And.intro dE dN))))
        clear he5 hl5 hk5 x5 hds dl dE dN q0 q1 q2 q3 q4 q5
        go_upto_region 32 with (go_at_call 13; refine (done_any wr.heap.size bk bm bu bh he ds w5 H5.out.1 dl1).mono ?_; rintro e w6 ⟨v, rfl, hv6, hk6⟩)
        have hb6 : Below wr.heap.size wr w6 := H4.out.2.1.trans ((H5.out.2.1.trans hk6).belowB (by omega) g1 g2 g3)
        have hbw6 := HE.out.2.2.2.2.trans (hb6.mono (by omega))
        have HV := Lib.hid (And.intro hv6 hbw6)
        have hcases := own_cases hv6
        clear p3 hv6 hk6 hb6 hbw6
        obtain ⟨a9, c9, rfl⟩ : ∃ a c, v = .slice a (k + 1) c := by
          have hdl := H5.out.2.2.1
          rcases hcases with ⟨rfl, h0⟩ | ⟨g, cap, rfl, _, _⟩
          · exact ⟨none, 0, by rw [← hdl, h0]⟩
          · exact ⟨_, _, by rw [← hdl]⟩
        clear hcases
        go_upto_region 37 with fail
        go_wp2_with fail
        go_loopw [23, 24, 25] (fun s23 s24 s25 wx => BRel name ds w6 s23 s24 s25 wx) (fun _ _ s25 _ => k + 1 - (intOf s25).toNat)
        case atStart => exact ⟨rfl, 0, by simp, by simp, rfl, Nat.zero_le _⟩
        case round =>
          obtain ⟨rfl, k2, rfl, rfl, rfl, hk2⟩ := hrel
          have hd1 := count_le ds k2 isE
          have hd2 := count_le ds k2 (hasNm name)
          obtain ⟨mE, hmE⟩ : ∃ x, (ds.take k2).countP isE = x := ⟨_, rfl⟩
          obtain ⟨mN, hmN⟩ : ∃ x, (ds.take k2).countP (hasNm name) = x := ⟨_, rfl⟩
          rw [hmE] at hd1 ⊢
          rw [hmN] at hd2 ⊢
          have hk2' : k2 ≤ k + 1 := by have := H5.out.2.2.1; omega
          have HX := Lib.hid (And.intro hmE hmN)
          clear hmE hmN hk2
          by_cases hlt2 : k2 < k + 1
          · obtain ⟨d, hd⟩ : ∃ d, ds[k2]? = some d := ⟨_, List.getElem?_eq_getElem (by have := H5.out.2.2.1; omega)⟩
            obtain ⟨g, hg⟩ : ∃ g, a9 = some ⟨g, 0, none⟩ := by
              rcases own_cases HV.out.1 with ⟨_, h0⟩ | ⟨g, cap, e, _⟩
              · have := H5.out.2.2.1
                omega
              · injection e with e _ _
                exact ⟨g, e⟩
            subst hg
            have hvv := HV.out.1
            rw [H5.out.2.2.1] at hvv
            obtain ⟨_, e1, _, _, _, _, e6, _⟩ := (mrow_of hvv).at hd
            have n1 := count_next' hd isE
            have n2 := count_next' hd (hasNm name)
            rw [HX.out.1] at n1
            rw [HX.out.2] at n2
            have HN := Lib.hid (And.intro n1 (And.intro n2 (mrow_of hvv)))
            clear n1 n2 hd hvv
            cases t1 : (d.kd == 0)
            · cases t2 : (d.nm.toList == name.toList)
              · go_wp2_with fail
                go_roundw
                case rel => exact ⟨rfl, k2 + 1, by rw [HN.out.1]; simp [isE, t1], by rw [HN.out.2.1]; simp [hasNm, t2], by go_num, by have := H5.out.2.2.1; omega⟩
                case measure => simp [intOf]; omega
              · go_wp2_with fail
                go_roundw
                case rel => exact ⟨rfl, k2 + 1, by rw [HN.out.1]; simp [isE, t1], by rw [HN.out.2.1]; simp [hasNm, t2], by go_num, by have := H5.out.2.2.1; omega⟩
                case measure => simp [intOf]; omega
            · cases t2 : (d.nm.toList == name.toList)
              · go_wp2_with fail
                go_roundw
                case rel => exact ⟨rfl, k2 + 1, by rw [HN.out.1]; simp [isE, t1], by rw [HN.out.2.1]; simp [hasNm, t2], by go_num, by have := H5.out.2.2.1; omega⟩
                case measure => simp [intOf]; omega
              · go_wp2_with fail
                go_roundw
                case rel => exact ⟨rfl, k2 + 1, by rw [HN.out.1]; simp [isE, t1], by rw [HN.out.2.1]; simp [hasNm, t2], by go_num, by have := H5.out.2.2.1; omega⟩
                case measure => simp [intOf]; omega
          · obtain rfl : k2 = k + 1 := by omega
            have hall : ds.take (k + 1) = ds := List.take_of_length_le (by have := H5.out.2.2.1; omega)
            have z1 : mE = nE + 1 := by rw [← HX.out.1, hall]; exact H5.out.2.2.2.1
            have z2 : mN = nN + 1 := by rw [← HX.out.2, hall]; exact H5.out.2.2.2.2
            clear hall
            subst z1 z2
            go_wp2_with fail
            go_ret
            exact ⟨rfl, HV.out.2⟩
end Go.Proofs.YtbbopdkgnolpoaaFmt
