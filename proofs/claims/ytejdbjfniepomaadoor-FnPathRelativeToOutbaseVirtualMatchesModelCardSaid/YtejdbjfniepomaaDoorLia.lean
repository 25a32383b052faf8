/-
  The contract of strings.LastIndexAny at slash and backslash; conditions: what the listed tables hold, the size that it names.
-/
import Derived.Test.YtejdbjfniepomaaDoorRune
import Derived.Test.YtejdbjfniepomaaDoorLast
namespace Go.Proofs.YtejdbjfniepomaaDoor
open Go.RowKit

theorem i36 : (Tryd.prog.info? 143).map (fun i => (i.zero, i.size)) = some (some (.agg (Array.replicate 256 (.bool false))), 256) := by kernel_rfl
theorem zv36 (w : World) : (zeroValue 143).run Tryd.prog w = .ok (.agg (Array.replicate 256 (.bool false))) w := (zero_of_info i36).1 w

def LiaEnd (s : ByteArray) (w : World) (e : Ending) (w' : World) : Prop := (∃ r : Int, e = .returned (.int .i64 r) ∧ IsLast s.data.toList r) ∧ Below w.heap.size w w'

theorem ch_sep (x : UInt8) : CH.data.toList.contains x = sepB x := by
  show [47, 92].contains x = _
  unfold sepB
  rw [List.contains_cons, List.contains_cons]
  simp

set_option maxHeartbeats 4000000 in
set_option maxRecDepth 1000000 in
theorem lia_long (s : ByteArray) (w : World) (h8 : 8 < s.size) (hs : s.size ≤ 4294967000) : Calls Tryd.prog 25 #[.string s, .string CH] w (LiaEnd s w) := by
  have hM := Tryd.strings_makeASCIISet zv36 CH w (by decide) (by
    intro j b hb
    have : sepB b = true := by rw [← ch_sep]; exact List.contains_iff_mem.2 (List.mem_of_getElem? hb)
    have := (sep_iff b).1 this
    omega)
  have hemp : CH.toList.isEmpty = false := by rw [Lib.toList_data]; rfl
  have hn1 : ((s.size : Int) == 1) = false := beq_eq_false_iff_ne.2 (by omega)
  have h8z : decide ((8 : Int) < (s.size : Int)) = true := decide_eq_true (by omega)
  have hsc : (storeCells ⟨w.heap.size + 1, 0, none⟩ (Lib.setCells CH.data.toList).toList 0).run Tryd.prog ((w.alloc (.cells (Lib.setCells CH.data.toList) 143)).alloc (.cells (Array.replicate 256 (.bool false)) 143)) = .ok () ((w.alloc (.cells (Lib.setCells CH.data.toList) 143)).alloc (.cells (Lib.setCells CH.data.toList) 143)) := by
    have := run_storeCells_new (P := Tryd.prog) (w.alloc (.cells (Lib.setCells CH.data.toList) 143)) 143 (Array.replicate 256 (.bool false)) (Lib.setCells CH.data.toList) (by rw [Lib.setCells_size]; kernel_rfl) (by rw [Lib.setCells_size, Array.size_replicate]) (Lib.setCells_one _)
    simpa using this
  have hsz := Lib.setCells_size CH.data.toList
  have hcellAt : ∀ x : UInt8, ((w.alloc (.cells (Lib.setCells CH.data.toList) 143)).alloc (.cells (Lib.setCells CH.data.toList) 143)).cell? ⟨w.heap.size + 1, x.toNat, none⟩ = some (.bool (sepB x)) := fun x => by
    rw [World.cell?_alloc_at _ _ _ _ (by simp), Lib.setCells_at, ch_sep]
  have hbw : Below w.heap.size w ((w.alloc (.cells (Lib.setCells CH.data.toList) 143)).alloc (.cells (Lib.setCells CH.data.toList) 143)) := ((Below.refl _ _).alloc (Nat.le_refl _) _).alloc (by simp) _
  obtain ⟨ch, hch⟩ : ∃ ch, CH = ch := ⟨_, rfl⟩
  rw [hch] at hM hemp hsc hsz hcellAt hbw ⊢
  clear hch
  obtain ⟨cells, hcells⟩ : ∃ cells, Lib.setCells ch.data.toList = cells := ⟨_, rfl⟩
  rw [hcells] at hM hsc hsz hcellAt hbw
  have HC := Lib.hid (And.intro hcellAt hbw)
  have hz36 := zv36 (w.alloc (.cells cells 143))
  clear hcellAt hbw hcells
  go_enter Tryd.func25, Tryd.ntmps25
  go_wp2_with (first
    | (go_at_call 36; refine (Tryd.strings_shouldUseASCIISet _ _).mono ?_; rintro e w' ⟨rfl, hw⟩; rw [hw, h8z])
    | (go_at_call 37; refine hM.mono ?_; rintro e w' ⟨rfl, hw⟩; rw [hw]))
  clear hM hsc hz36
  go_loopg [8] s.size (fun g s8 wx => g ≤ s.size ∧ s8 = .int .i64 ((g : Int) - 1) ∧ wx = ((w.alloc (.cells cells 143)).alloc (.cells cells 143)) ∧ NoSepFrom s.data.toList g)
  case atStart => exact ⟨Nat.le_refl _, rfl, rfl, NoSepFrom.all _ _ (by rw [← Lib.size_eq]; exact Nat.le_refl _)⟩
  case round =>
    obtain ⟨hg, rfl, rfl, hno⟩ := hrel
    have HN := Lib.hid hno
    clear hno
    cases gk with
    | zero =>
      have e0 : ((0 : Nat) : Int) - 1 = -1 := by decide
      have hneg : ¬ (0 : Int) ≤ -1 := by decide
      rw [e0]
      go_wp2
      go_ret
      exact ⟨⟨-1, rfl, .inl ⟨rfl, HN.out⟩⟩, HC.out.2⟩
    | succ g =>
      have hi : g < s.size := by omega
      have hiz : (g : Int) < (s.size : Int) := by omega
      have e1 : ((g + 1 : Nat) : Int) - 1 = (g : Int) := by omega
      rw [e1]
      obtain ⟨x, hx⟩ : ∃ x : UInt8, s[g]'hi = x := ⟨_, rfl⟩
      have hxl : s.data.toList[g]? = some x := by rw [← hx]; exact Lib.data_getElem? s g hi
      have Hx := Lib.hid hxl
      clear hxl
      have hcx := HC.out.1 x
      cases hin : sepB x <;> rw [hin] at hcx
      · go_wp2_with (go_at_call 38; refine (Tryd.asciiSet_contains _ x _ _ hcx).mono ?_; rintro e w' ⟨rfl, hw⟩; rw [hw])
        go_roundg g
        case measure => omega
        case rel => exact ⟨by omega, by first | rfl | simp, rfl, HN.out.down Hx.out hin⟩
      · go_wp2_with (go_at_call 38; refine (Tryd.asciiSet_contains _ x _ _ hcx).mono ?_; rintro e w' ⟨rfl, hw⟩; rw [hw])
        go_ret
        exact ⟨⟨g, rfl, .inr ⟨g, x, rfl, Hx.out, hin, HN.out⟩⟩, HC.out.2⟩

set_option maxHeartbeats 4000000 in
set_option maxRecDepth 1000000 in
theorem lia_one (s : ByteArray) (w : World) (h1 : s.size = 1) : Calls Tryd.prog 25 #[.string s, .string CH] w (LiaEnd s w) := by
  have hemp : CH.toList.isEmpty = false := by rw [Lib.toList_data]; rfl
  obtain ⟨x, hx⟩ : ∃ x : UInt8, s[0]'(by omega) = x := ⟨_, rfl⟩
  have hxl : s.data.toList[0]? = some x := by rw [← hx]; exact Lib.data_getElem? s 0 (by omega)
  have hn1 : (s.size : Int) = 1 := by omega
  have hall : NoSepFrom s.data.toList 1 := NoSepFrom.all _ _ (by rw [← Lib.size_eq]; omega)
  have Hx := Lib.hid (And.intro hxl hall)
  clear hxl hall
  have h256 : x.toNat < 256 := x.toNat_lt
  obtain ⟨ch, hch⟩ : ∃ ch, CH = ch := ⟨_, rfl⟩
  have hra := rune_any
  rw [hch] at hemp hra ⊢
  clear hch
  by_cases h128 : 128 ≤ x.toNat
  · have hr := hra 65533 w (by decide) (fun _ => by decide)
    clear hra
    go_enter Tryd.func25, Tryd.ntmps25
    go_wp2_with fail
    refine hr.mono ?_
    rintro e w' ⟨⟨r, rfl, hri⟩, hb⟩
    have hneg : ¬ (0 : Int) ≤ r := fun h => by have := hri.1 h; omega
    go_wp2_with fail
    go_ret
    exact ⟨⟨-1, rfl, .inl ⟨rfl, Hx.out.2.down Hx.out.1 (sep_high h128)⟩⟩, hb⟩
  · have hr := hra (x.toNat : Int) w (by omega) (fun h => by omega)
    clear hra
    go_enter Tryd.func25, Tryd.ntmps25
    go_wp2_with fail
    refine hr.mono ?_
    rintro e w' ⟨⟨r, rfl, hri⟩, hb⟩
    by_cases h0 : (0 : Int) ≤ r
    · have hs := hri.1 h0
      go_wp2_with fail
      go_ret
      exact ⟨⟨0, rfl, .inr ⟨0, x, rfl, Hx.out.1, (sep_iff x).2 (by omega), Hx.out.2⟩⟩, hb⟩
    · have hs : sepB x = false := Bool.eq_false_iff.2 fun e => h0 (hri.2 (by have := (sep_iff x).1 e; omega))
      clear hri
      go_wp2_with fail
      go_ret
      exact ⟨⟨-1, rfl, .inl ⟨rfl, Hx.out.2.down Hx.out.1 hs⟩⟩, hb⟩

def Tabs (w : World) : Prop := Lib.Utf8Tabs 1 2 w
theorem Tabs.up {w w' : World} (h : Tabs w) (hb : Below w.heap.size w w') : Tabs w' := Utf8Tabs_below h hb

theorem take_size (s : ByteArray) (i : Nat) : (s.extract 0 i).data.toList = s.data.toList.take i := by
  rw [extract_S, S_data]
  simp

set_option maxHeartbeats 4000000 in
set_option maxRecDepth 1000000 in
theorem lia_short (s : ByteArray) (w : World) (h1 : s.size ≠ 1) (h8 : s.size ≤ 8) (hT : Tabs w) : Calls Tryd.prog 25 #[.string s, .string CH] w (LiaEnd s w) := by
  have hemp : CH.toList.isEmpty = false := by rw [Lib.toList_data]; rfl
  have hch2 : ((CH.size : Int) == 1) = false := by decide
  have hn1 : ((s.size : Int) == 1) = false := beq_eq_false_iff_ne.2 (by omega)
  have h8z : decide ((8 : Int) < (s.size : Int)) = false := decide_eq_false (by omega)
  obtain ⟨ch, hch⟩ : ∃ ch, CH = ch := ⟨_, rfl⟩
  have hra := rune_any
  rw [hch] at hemp hra hch2 ⊢
  clear hch
  have HR := Lib.hid (And.intro hra hT)
  clear hra hT
  go_enter Tryd.func25, Tryd.ntmps25
  go_wp2_with (go_at_call 36; refine (Tryd.strings_shouldUseASCIISet _ _).mono ?_; rintro e w' ⟨rfl, hw⟩; rw [hw, h8z])
  go_loopw [13, 14, 15] (fun s13 s14 s15 wx => ∃ i : Nat, i ≤ s.size ∧ s13 = .int .i64 i ∧ NoSepFrom s.data.toList i ∧ Below w.heap.size w wx) (fun s13 _ _ _ => (intOf s13).toNat)
  case atStart => exact ⟨s.size, Nat.le_refl _, rfl, NoSepFrom.all _ _ (by rw [← Lib.size_eq]; exact Nat.le_refl _), Below.refl _ _⟩
  case round =>
    obtain ⟨i, hi, rfl, hno, hb⟩ := hrel
    have HN := Lib.hid (And.intro hno hb)
    clear hno hb
    by_cases h0 : 0 < i
    · have hne : (s.extract 0 i).data.toList ≠ [] := by
        rw [take_size]
        intro e
        have := congrArg List.length e
        rw [List.length_take, ← Lib.size_eq, List.length_nil] at this
        omega
      have hf := last_facts _ hne
      have hlen : (s.extract 0 i).data.toList.length = i := by rw [take_size, List.length_take, ← Lib.size_eq]; omega
      rw [hlen] at hf
      have hd := Tryd.utf8_DecodeLastRuneInString (s.extract 0 i)
      have hxs : (s.extract 0 i).size ≤ 9223372036854775807 := by rw [Lib.size_eq, hlen]; omega
      obtain ⟨r, hr⟩ : ∃ r, (Lib.decodeLastL (s.extract 0 i).data.toList).1 = r := ⟨_, rfl⟩
      obtain ⟨n, hn⟩ : ∃ n, (Lib.decodeLastL (s.extract 0 i).data.toList).2 = n := ⟨_, rfl⟩
      rw [hr, hn] at hf hd
      rw [take_size] at hf
      have hin : ∀ j b, j < i → s.data.toList[j]? = some b → (s.data.toList.take i)[j]? = some b := fun j b hj hb => by rw [List.getElem?_take_of_lt hj]; exact hb
      obtain ⟨f1, f2, f3, f4, f5⟩ := hf
      have HF := Lib.hid (And.intro f3 (And.intro f4 (And.intro f5 (And.intro hin hd))))
      clear f3 f4 f5 hin hd hr hn hne hlen
      have t1 : (0 : Int) ≤ (i : Int) := by omega
      have t2 : (i : Int) ≤ (s.size : Int) := by omega
      go_wp2_with fail

      refine (HF.out.2.2.2.2 _ hxs (HR.out.2.up HN.out.2)).mono ?_
      rintro e w1 ⟨rfl, hb1⟩
      go_wp2_with fail
      refine (HR.out.1 (r : Int) w1 (by omega) (fun h => HF.out.1 (by omega))).mono ?_
      rintro e w2 ⟨⟨x, rfl, hxi⟩, hb2⟩
      have hbb := HN.out.2.trans ((hb1.mono HN.out.2.size).trans (hb2.mono (by have := HN.out.2.size; have := hb1.size; omega)))
      by_cases hx0 : (0 : Int) ≤ x
      · have hs := hxi.1 hx0
        obtain ⟨hn1', hsep⟩ := HF.out.2.1 (by omega)
        subst hn1'
        go_wp2_with fail
        go_ret
        refine ⟨⟨((i - 1 : Nat) : Int), by first | rfl | exact ret_int (by omega), .inr ⟨i - 1, _, rfl, ?_, hsep, by rw [show i - 1 + 1 = i by omega]; exact HN.out.1⟩⟩, hbb⟩
        have hil : i - 1 < (s.data.toList.take i).length := by rw [List.length_take, ← Lib.size_eq]; omega
        have hg := get_of hil
        rw [List.getElem?_take_of_lt (by omega)] at hg
        have hm : (s.data.toList.take i).length - 1 = i - 1 := by rw [List.length_take, ← Lib.size_eq]; omega
        first
          | exact hg
          | (rw [hm]; exact hg)
      · have hsn : ¬ (r = 47 ∨ r = 92) := fun h => hx0 (hxi.2 (by omega))
        clear hxi
        go_wp2_with fail
        refine ⟨⟨i - n, by omega, by go_num, fun j b hj hb => ?_, hbb⟩, by simp [intOf]; omega⟩
        by_cases hji : j < i
        · exact HF.out.2.2.1 hsn j b (by omega) (HF.out.2.2.2.1 j b hji hb)
        · exact HN.out.1 j b (by omega) hb
    · obtain rfl : i = 0 := by omega
      go_wp2_with fail
      go_ret
      exact ⟨⟨-1, rfl, .inl ⟨rfl, HN.out.1⟩⟩, HN.out.2⟩

theorem lia_any (s : ByteArray) (w : World) (hT : Tabs w) (hs : s.size ≤ 4294967000) : Calls Tryd.prog 25 #[.string s, .string CH] w (LiaEnd s w) := by
  by_cases h1 : s.size = 1
  · exact lia_one s w h1
  · by_cases h8 : s.size ≤ 8
    · exact lia_short s w h1 h8 hT
    · exact lia_long s w (by omega) hs

end Go.Proofs.YtejdbjfniepomaaDoor
