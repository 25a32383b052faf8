/-
  The contract of printIndentedComment; conditions: what the listed tables hold, the sizes that it names.
-/
import Derived.Test.YtalnapcphdmjaaaDoorPrn
import Derived.Test.YtalnapcphdmjaaaDoorTag
import Derived.Test.YtalnapcphdmjaaaDoorLay
namespace Go.Proofs.YtalnapcphdmjaaaDoor
open Go.RowKit

set_option maxHeartbeats 400000 in
theorem has_off (w : World) : Calls Tryd.prog 18 #[.int .u16 0, .int .u16 64] w fun e w' => e = .returned (.bool false) ∧ w = w' := by
  go_enter Tryd.func18, Tryd.ntmps18
  go_wp2
  go_ret
  exact ⟨rfl, rfl⟩
set_option maxHeartbeats 400000 in
theorem has_on (w : World) : Calls Tryd.prog 18 #[.int .u16 64, .int .u16 64] w fun e w' => e = .returned (.bool true) ∧ w = w' := by
  go_enter Tryd.func18, Tryd.ntmps18
  go_wp2
  go_ret
  exact ⟨rfl, rfl⟩

def styleB : ByteArray := ⟨#[47, 115, 116, 121, 108, 101]⟩
theorem styleB_data : styleB.data.toList = styleTag := rfl
theorem styleB_ascii : Ascii styleB := by
  intro j b hb
  rw [styleB_data] at hb
  have : ∀ b ∈ styleTag, b.toNat < 128 := by decide
  exact this b (List.mem_of_getElem? hb)

/-- The place of the first newline. -/
theorem newline_cases (t : ByteArray) : (Lib.indexByte t.data.toList (10 : Int).toNat.toUInt8 = -1 ∧ (10 : UInt8) ∉ t.data.toList) ∨ ∃ (i : Nat) (b : List UInt8), Lib.indexByte t.data.toList (10 : Int).toNat.toUInt8 = (i : Int) ∧ i < t.size ∧ t.data.toList = t.data.toList.take i ++ 10 :: b ∧ (10 : UInt8) ∉ t.data.toList.take i ∧ t.data.toList.take (i + 1) = t.data.toList.take i ++ [10] ∧ t.data.toList.drop (i + 1) = b := by
  have e : (10 : Int).toNat.toUInt8 = 10 := rfl
  rw [e, ← Lib.index_one]
  rcases index1 10 t.data.toList with h | ⟨a, b, h1, h2, h3⟩
  · exact .inl h
  · refine .inr ⟨a.length, b, h3, ?_, ?_, ?_, ?_, ?_⟩
    · rw [Lib.size_eq, h1]; simp
    · rw [h1]; simp
    · rw [h1]; simpa using h2
    · rw [h1]
      rw [List.take_append, List.take_append, List.take_of_length_le (Nat.le_succ _), List.take_of_length_le (Nat.le_refl _), Nat.add_sub_cancel_left, Nat.sub_self]
      simp
    · rw [h1, List.drop_append]
      simp

/-- What a printed comment is. -/
def cmt (mini : Bool) (n lim : Int) (T : List UInt8) : List UInt8 := lay (if mini then 0 else lv n lim) T

set_option maxHeartbeats 4000000 in
set_option maxRecDepth 10000 in
theorem cmt_plain (B g : Nat) (mini : Bool) (lim : Int) (l : List UInt8) (n : Int) (text : ByteArray) (w : World) (hn0 : -2147483648 ≤ n) (hn : n ≤ 65536) (hlim : -9223372036854775808 ≤ lim ∧ lim ≤ 9223372036854775807) (h : Prn B g mini lim 64 l w) (hBw : B ≤ w.heap.size)
    (hbd : l.length + (text.size + newlines text.data.toList * (2 * (if mini then 0 else lv n lim))) ≤ 1000000000) :
    Calls Tryd.prog 16 #[.pointer (some ⟨g, 0, none⟩), .int .i32 n, .string text] w fun e w' => e = .returned (.tuple #[]) ∧ Prn B g mini lim 64 (l ++ cmt mini n lim text.data.toList) w' ∧ Below B w w' := by
  have hP := h
  obtain ⟨cs, v, hB, hg, hs, h3, h5, h6, h15, hown⟩ := h
  have c5 : w.cell? ⟨g, 5, none⟩ = some (.int .u16 64) := (Lib.cell_of_heap hg 5).trans h5
  clear hs h3 h5 h6 h15 hown hB hg
  unfold cmt
  have hm : ∀ wr (L : List UInt8), Prn B g mini lim 64 L wr → wr.cell? ⟨g, 6, none⟩ = some (.bool mini) := fun wr L ⟨cs, v, _, hg, _, _, _, h6, _⟩ => (Lib.cell_of_heap hg 6).trans h6
  cases mini
  · simp only [Bool.false_eq_true, if_false] at hbd ⊢
    have HBD := Lib.hid hbd
    have HP := Lib.hid hP
    have HM := Lib.hid hm
    clear hbd hP hm
    go_enter Tryd.func16, Tryd.ntmps16
    go_wp2_with fail
    refine (has_on _).mono ?_
    rintro e w' ⟨rfl, rfl⟩
    go_wp2_with fail
    go_loopw [2, 6] (fun s2 _ wr => ∃ (t : ByteArray) (L : List UInt8), s2 = .string t ∧ Prn B g false lim 64 L wr ∧ Below B w wr ∧ L ++ lay (lv n lim) t.data.toList = l ++ lay (lv n lim) text.data.toList) (fun s2 _ _ => match s2 with | .string t => t.size | _ => 0)
    case atStart => exact ⟨_, l, rfl, HP.out, Below.refl _ _, rfl⟩
    case round =>
      obtain ⟨t, L, rfl, hpr, hbl, hacc⟩ := hrel
      have hL : L.length + (t.size + newlines t.data.toList * (2 * (lv n lim))) ≤ 1000000000 := by
        have h1 := congrArg List.length hacc
        rw [List.length_append, List.length_append, lay_length, lay_length, ← Lib.size_eq, ← Lib.size_eq] at h1
        have h2 := HBD.out
        omega
      have HACC := Lib.hid hacc
      have hszr := hbl.size
      clear hacc
      rcases newline_cases t with ⟨hno, hnm⟩ | ⟨i, b, hix, hlt, hsp, hna, htk, hdr⟩
      · have HNO := Lib.hid (And.intro hno hnm)
        clear hno hnm
        go_wp2_with fail
        refine (Tryd.strings_IndexByte t 10 _).mono ?_
        rintro e w' ⟨rfl, rfl⟩
        rw [HNO.out.1]
        go_wp2_with fail
        refine (print_any B g false lim 64 L t _ hpr (by omega) (Nat.le_trans hBw hszr)).mono ?_
        rintro e wA ⟨rfl, hprA, hbA⟩
        go_wp2_with fail
        go_end0
        have hacc := HACC.out
        rw [lay_plain _ _ HNO.out.2] at hacc
        rw [hacc] at hprA
        exact ⟨rfl, hprA, hbl.trans hbA⟩
      · have hnl : newlines t.data.toList = 1 + newlines b + newlines (t.data.toList.take i) := by
          conv => lhs; rw [hsp]
          rw [newlines_append, newlines_cons, if_pos rfl]
          omega
        have HSP := Lib.hid (And.intro hix (And.intro hsp (And.intro hna (And.intro htk hdr))))
        have hsz1 : (t.extract 0 (i + 1)).size = i + 1 := by simp; omega
        have hd1 : (t.extract 0 (i + 1)).data.toList = t.data.toList.take i ++ [10] := by rw [Lib.extract_data, List.drop_zero, Nat.sub_zero, htk]
        have HD1 := Lib.hid (And.intro hd1 hsz1)
        have hd2 : (t.extract (i + 1) t.size).data.toList = b := by rw [Lib.extract_data, List.take_of_length_le (by rw [List.length_drop, ← Lib.size_eq]; exact Nat.le_refl _), hdr]
        have HD2 := Lib.hid hd2
        have hli : (t.data.toList.take i).length = i := by rw [List.length_take, ← Lib.size_eq]; omega
        have HLEN := Lib.hid (show L.length + (t.data.toList.take i).length + 1 ≤ 1000000000 by omega)
        clear hix hsp hna htk hdr hd1 hsz1 hd2 hnl hli
        go_wp2_with fail
        refine (Tryd.strings_IndexByte t 10 _).mono ?_
        rintro e w' ⟨rfl, rfl⟩
        rw [HSP.out.1]
        go_wp2_with fail
        refine (print_any B g false lim 64 L _ _ hpr (by rw [HD1.out.2]; omega) (Nat.le_trans hBw hszr)).mono ?_
        rintro e wA ⟨rfl, hprA, hbA⟩
        rw [HD1.out.1] at hprA
        have hbA' := hbl.trans hbA
        have hszA := hbA'.size
        have c6 := HM.out _ _ hprA
        clear hbA hpr hbl
        go_wp2_with fail
        refine (indent_any B g false lim 64 _ n _ hn0 hn hlim hprA (by have := HLEN.out; rw [List.length_append, List.length_append]; simp only [List.length_cons, List.length_nil]; omega) (Nat.le_trans hBw hszA)).mono ?_
        rintro e wC ⟨rfl, hprC, hbC⟩
        have hbC' := hbA'.trans hbC
        have hszC := hbC'.size
        clear hprA hbC
        go_wp2_with fail
        refine ⟨⟨_, _, rfl, hprC, hbC', ?_⟩, by show (t.extract (i + 1) t.size).size < t.size; simp; omega⟩
        rw [HD2.out, ← HACC.out]
        conv => rhs; rw [HSP.out.2.1]
        rw [lay_line _ _ _ HSP.out.2.2.1]
        simp [List.append_assoc]

  · simp only [if_true] at hbd ⊢
    have HBD := Lib.hid hbd
    have HP := Lib.hid hP
    have HM := Lib.hid hm
    clear hbd hP hm
    go_enter Tryd.func16, Tryd.ntmps16
    go_wp2_with fail
    refine (has_on _).mono ?_
    rintro e w' ⟨rfl, rfl⟩
    go_wp2_with fail
    go_loopw [2, 6] (fun s2 _ wr => ∃ (t : ByteArray) (L : List UInt8), s2 = .string t ∧ Prn B g true lim 64 L wr ∧ Below B w wr ∧ L ++ lay 0 t.data.toList = l ++ lay 0 text.data.toList) (fun s2 _ _ => match s2 with | .string t => t.size | _ => 0)
    case atStart => exact ⟨_, l, rfl, HP.out, Below.refl _ _, rfl⟩
    case round =>
      obtain ⟨t, L, rfl, hpr, hbl, hacc⟩ := hrel
      have hL : L.length + (t.size + newlines t.data.toList * (2 * 0)) ≤ 1000000000 := by
        have h1 := congrArg List.length hacc
        rw [List.length_append, List.length_append, lay_length, lay_length, ← Lib.size_eq, ← Lib.size_eq] at h1
        have h2 := HBD.out
        omega
      have HACC := Lib.hid hacc
      have hszr := hbl.size
      clear hacc
      rcases newline_cases t with ⟨hno, hnm⟩ | ⟨i, b, hix, hlt, hsp, hna, htk, hdr⟩
      · have HNO := Lib.hid (And.intro hno hnm)
        clear hno hnm
        go_wp2_with fail
        refine (Tryd.strings_IndexByte t 10 _).mono ?_
        rintro e w' ⟨rfl, rfl⟩
        rw [HNO.out.1]
        go_wp2_with fail
        refine (print_any B g true lim 64 L t _ hpr (by omega) (Nat.le_trans hBw hszr)).mono ?_
        rintro e wA ⟨rfl, hprA, hbA⟩
        go_wp2_with fail
        go_end0
        have hacc := HACC.out
        rw [lay_plain _ _ HNO.out.2] at hacc
        rw [hacc] at hprA
        exact ⟨rfl, hprA, hbl.trans hbA⟩
      · have hnl : newlines t.data.toList = 1 + newlines b + newlines (t.data.toList.take i) := by
          conv => lhs; rw [hsp]
          rw [newlines_append, newlines_cons, if_pos rfl]
          omega
        have HSP := Lib.hid (And.intro hix (And.intro hsp (And.intro hna (And.intro htk hdr))))
        have hsz1 : (t.extract 0 (i + 1)).size = i + 1 := by simp; omega
        have hd1 : (t.extract 0 (i + 1)).data.toList = t.data.toList.take i ++ [10] := by rw [Lib.extract_data, List.drop_zero, Nat.sub_zero, htk]
        have HD1 := Lib.hid (And.intro hd1 hsz1)
        have hd2 : (t.extract (i + 1) t.size).data.toList = b := by rw [Lib.extract_data, List.take_of_length_le (by rw [List.length_drop, ← Lib.size_eq]; exact Nat.le_refl _), hdr]
        have HD2 := Lib.hid hd2
        have hli : (t.data.toList.take i).length = i := by rw [List.length_take, ← Lib.size_eq]; omega
        have HLEN := Lib.hid (show L.length + (t.data.toList.take i).length + 1 ≤ 1000000000 by omega)
        clear hix hsp hna htk hdr hd1 hsz1 hd2 hnl hli
        go_wp2_with fail
        refine (Tryd.strings_IndexByte t 10 _).mono ?_
        rintro e w' ⟨rfl, rfl⟩
        rw [HSP.out.1]
        go_wp2_with fail
        refine (print_any B g true lim 64 L _ _ hpr (by rw [HD1.out.2]; omega) (Nat.le_trans hBw hszr)).mono ?_
        rintro e wA ⟨rfl, hprA, hbA⟩
        rw [HD1.out.1] at hprA
        have hbA' := hbl.trans hbA
        have hszA := hbA'.size
        have c6 := HM.out _ _ hprA
        clear hbA hpr hbl
        go_wp2_with fail
        refine ⟨⟨_, _, rfl, hprA, hbA', ?_⟩, by show (t.extract (i + 1) t.size).size < t.size; simp; omega⟩
        rw [HD2.out, ← HACC.out]
        conv => rhs; rw [HSP.out.2.1]
        rw [lay_line _ _ _ HSP.out.2.2.1]
        simp [List.append_assoc]


set_option maxHeartbeats 4000000 in
set_option maxRecDepth 10000 in
theorem cmt_styled (B g : Nat) (mini : Bool) (lim : Int) (l : List UInt8) (n : Int) (text : ByteArray) (w : World) (hT : Tabs w) (hn0 : -2147483648 ≤ n) (hn : n ≤ 65536) (hlim : -9223372036854775808 ≤ lim ∧ lim ≤ 9223372036854775807) (h : Prn B g mini lim 0 l w) (hBw : B ≤ w.heap.size) (hts : text.size ≤ 4194304)
    (hbd : l.length + ((esc styleTag text.data.toList).length + newlines text.data.toList * (2 * (if mini then 0 else lv n lim))) ≤ 1000000000) :
    Calls Tryd.prog 16 #[.pointer (some ⟨g, 0, none⟩), .int .i32 n, .string text] w fun e w' => e = .returned (.tuple #[]) ∧ Prn B g mini lim 0 (l ++ cmt mini n lim (esc styleTag text.data.toList)) w' ∧ Below B w w' := by
  have hP := h
  obtain ⟨cs, v, hB, hg, hs, h3, h5, h6, h15, hown⟩ := h
  have c5 : w.cell? ⟨g, 5, none⟩ = some (.int .u16 0) := (Lib.cell_of_heap hg 5).trans h5
  have hgl := bld_lt hg
  clear hs h3 h5 h6 h15 hown hB hg
  unfold cmt
  have hm : ∀ wr (L : List UInt8), Prn B g mini lim 0 L wr → wr.cell? ⟨g, 6, none⟩ = some (.bool mini) := fun wr L ⟨cs, v, _, hg, _, _, _, h6, _⟩ => (Lib.cell_of_heap hg 6).trans h6
  rw [← newlines_esc styleTag] at hbd
  have HT := Lib.hid hT
  clear hT
  cases mini
  · simp only [Bool.false_eq_true, if_false] at hbd ⊢
    have HBD := Lib.hid hbd
    have HP := Lib.hid hP
    have HM := Lib.hid hm
    clear hbd hP hm
    go_enter Tryd.func16, Tryd.ntmps16
    go_wp2_with fail
    refine (has_off _).mono ?_
    rintro e w' ⟨rfl, rfl⟩
    go_wp2_with fail
    refine (esc_any text styleB _ HT.out hts (by decide) (by decide) styleB_ascii).mono ?_
    rintro e w0 ⟨rfl, hb0⟩
    rw [styleB_data]
    have hbl0 := hb0.mono hBw
    have hP0 := HP.out.up hb0
    have HP0 := Lib.hid (And.intro hP0 hbl0)
    clear hb0 hP0 hbl0
    go_wp2_with fail
    go_loopw [2, 6] (fun s2 _ wr => ∃ (t : ByteArray) (L : List UInt8), s2 = .string t ∧ Prn B g false lim 0 L wr ∧ Below B w wr ∧ L ++ lay (lv n lim) t.data.toList = l ++ lay (lv n lim) (esc styleTag text.data.toList)) (fun s2 _ _ => match s2 with | .string t => t.size | _ => 0)
    case atStart => exact ⟨_, l, rfl, HP0.out.1, HP0.out.2, by rw [S_data]⟩
    case round =>
      obtain ⟨t, L, rfl, hpr, hbl, hacc⟩ := hrel
      have hL : L.length + (t.size + newlines t.data.toList * (2 * (lv n lim))) ≤ 1000000000 := by
        have h1 := congrArg List.length hacc
        rw [List.length_append, List.length_append, lay_length, lay_length, ← Lib.size_eq] at h1
        have h2 := HBD.out
        omega
      have HACC := Lib.hid hacc
      have hszr := hbl.size
      clear hacc
      rcases newline_cases t with ⟨hno, hnm⟩ | ⟨i, b, hix, hlt, hsp, hna, htk, hdr⟩
      · have HNO := Lib.hid (And.intro hno hnm)
        clear hno hnm
        go_wp2_with fail
        refine (Tryd.strings_IndexByte t 10 _).mono ?_
        rintro e w' ⟨rfl, rfl⟩
        rw [HNO.out.1]
        go_wp2_with fail
        refine (print_any B g false lim 0 L t _ hpr (by omega) (Nat.le_trans hBw hszr)).mono ?_
        rintro e wA ⟨rfl, hprA, hbA⟩
        go_wp2_with fail
        go_end0
        have hacc := HACC.out
        rw [lay_plain _ _ HNO.out.2] at hacc
        rw [hacc] at hprA
        exact ⟨rfl, hprA, hbl.trans hbA⟩
      · have hnl : newlines t.data.toList = 1 + newlines b + newlines (t.data.toList.take i) := by
          conv => lhs; rw [hsp]
          rw [newlines_append, newlines_cons, if_pos rfl]
          omega
        have HSP := Lib.hid (And.intro hix (And.intro hsp (And.intro hna (And.intro htk hdr))))
        have hsz1 : (t.extract 0 (i + 1)).size = i + 1 := by simp; omega
        have hd1 : (t.extract 0 (i + 1)).data.toList = t.data.toList.take i ++ [10] := by rw [Lib.extract_data, List.drop_zero, Nat.sub_zero, htk]
        have HD1 := Lib.hid (And.intro hd1 hsz1)
        have hd2 : (t.extract (i + 1) t.size).data.toList = b := by rw [Lib.extract_data, List.take_of_length_le (by rw [List.length_drop, ← Lib.size_eq]; exact Nat.le_refl _), hdr]
        have HD2 := Lib.hid hd2
        have hli : (t.data.toList.take i).length = i := by rw [List.length_take, ← Lib.size_eq]; omega
        have HLEN := Lib.hid (show L.length + (t.data.toList.take i).length + 1 ≤ 1000000000 by omega)
        clear hix hsp hna htk hdr hd1 hsz1 hd2 hnl hli
        go_wp2_with fail
        refine (Tryd.strings_IndexByte t 10 _).mono ?_
        rintro e w' ⟨rfl, rfl⟩
        rw [HSP.out.1]
        go_wp2_with fail
        refine (print_any B g false lim 0 L _ _ hpr (by rw [HD1.out.2]; omega) (Nat.le_trans hBw hszr)).mono ?_
        rintro e wA ⟨rfl, hprA, hbA⟩
        rw [HD1.out.1] at hprA
        have hbA' := hbl.trans hbA
        have hszA := hbA'.size
        have c6 := HM.out _ _ hprA
        clear hbA hpr hbl
        go_wp2_with fail
        refine (indent_any B g false lim 0 _ n _ hn0 hn hlim hprA (by have := HLEN.out; rw [List.length_append, List.length_append]; simp only [List.length_cons, List.length_nil]; omega) (Nat.le_trans hBw hszA)).mono ?_
        rintro e wC ⟨rfl, hprC, hbC⟩
        have hbC' := hbA'.trans hbC
        have hszC := hbC'.size
        clear hprA hbC
        go_wp2_with fail
        refine ⟨⟨_, _, rfl, hprC, hbC', ?_⟩, by show (t.extract (i + 1) t.size).size < t.size; simp; omega⟩
        rw [HD2.out, ← HACC.out]
        conv => rhs; rw [HSP.out.2.1]
        rw [lay_line _ _ _ HSP.out.2.2.1]
        simp [List.append_assoc]

  · simp only [if_true] at hbd ⊢
    have HBD := Lib.hid hbd
    have HP := Lib.hid hP
    have HM := Lib.hid hm
    clear hbd hP hm
    go_enter Tryd.func16, Tryd.ntmps16
    go_wp2_with fail
    refine (has_off _).mono ?_
    rintro e w' ⟨rfl, rfl⟩
    go_wp2_with fail
    refine (esc_any text styleB _ HT.out hts (by decide) (by decide) styleB_ascii).mono ?_
    rintro e w0 ⟨rfl, hb0⟩
    rw [styleB_data]
    have hbl0 := hb0.mono hBw
    have hP0 := HP.out.up hb0
    have HP0 := Lib.hid (And.intro hP0 hbl0)
    clear hb0 hP0 hbl0
    go_wp2_with fail
    go_loopw [2, 6] (fun s2 _ wr => ∃ (t : ByteArray) (L : List UInt8), s2 = .string t ∧ Prn B g true lim 0 L wr ∧ Below B w wr ∧ L ++ lay 0 t.data.toList = l ++ lay 0 (esc styleTag text.data.toList)) (fun s2 _ _ => match s2 with | .string t => t.size | _ => 0)
    case atStart => exact ⟨_, l, rfl, HP0.out.1, HP0.out.2, by rw [S_data]⟩
    case round =>
      obtain ⟨t, L, rfl, hpr, hbl, hacc⟩ := hrel
      have hL : L.length + (t.size + newlines t.data.toList * (2 * 0)) ≤ 1000000000 := by
        have h1 := congrArg List.length hacc
        rw [List.length_append, List.length_append, lay_length, lay_length, ← Lib.size_eq] at h1
        have h2 := HBD.out
        omega
      have HACC := Lib.hid hacc
      have hszr := hbl.size
      clear hacc
      rcases newline_cases t with ⟨hno, hnm⟩ | ⟨i, b, hix, hlt, hsp, hna, htk, hdr⟩
      · have HNO := Lib.hid (And.intro hno hnm)
        clear hno hnm
        go_wp2_with fail
        refine (Tryd.strings_IndexByte t 10 _).mono ?_
        rintro e w' ⟨rfl, rfl⟩
        rw [HNO.out.1]
        go_wp2_with fail
        refine (print_any B g true lim 0 L t _ hpr (by omega) (Nat.le_trans hBw hszr)).mono ?_
        rintro e wA ⟨rfl, hprA, hbA⟩
        go_wp2_with fail
        go_end0
        have hacc := HACC.out
        rw [lay_plain _ _ HNO.out.2] at hacc
        rw [hacc] at hprA
        exact ⟨rfl, hprA, hbl.trans hbA⟩
      · have hnl : newlines t.data.toList = 1 + newlines b + newlines (t.data.toList.take i) := by
          conv => lhs; rw [hsp]
          rw [newlines_append, newlines_cons, if_pos rfl]
          omega
        have HSP := Lib.hid (And.intro hix (And.intro hsp (And.intro hna (And.intro htk hdr))))
        have hsz1 : (t.extract 0 (i + 1)).size = i + 1 := by simp; omega
        have hd1 : (t.extract 0 (i + 1)).data.toList = t.data.toList.take i ++ [10] := by rw [Lib.extract_data, List.drop_zero, Nat.sub_zero, htk]
        have HD1 := Lib.hid (And.intro hd1 hsz1)
        have hd2 : (t.extract (i + 1) t.size).data.toList = b := by rw [Lib.extract_data, List.take_of_length_le (by rw [List.length_drop, ← Lib.size_eq]; exact Nat.le_refl _), hdr]
        have HD2 := Lib.hid hd2
        have hli : (t.data.toList.take i).length = i := by rw [List.length_take, ← Lib.size_eq]; omega
        have HLEN := Lib.hid (show L.length + (t.data.toList.take i).length + 1 ≤ 1000000000 by omega)
        clear hix hsp hna htk hdr hd1 hsz1 hd2 hnl hli
        go_wp2_with fail
        refine (Tryd.strings_IndexByte t 10 _).mono ?_
        rintro e w' ⟨rfl, rfl⟩
        rw [HSP.out.1]
        go_wp2_with fail
        refine (print_any B g true lim 0 L _ _ hpr (by rw [HD1.out.2]; omega) (Nat.le_trans hBw hszr)).mono ?_
        rintro e wA ⟨rfl, hprA, hbA⟩
        rw [HD1.out.1] at hprA
        have hbA' := hbl.trans hbA
        have hszA := hbA'.size
        have c6 := HM.out _ _ hprA
        clear hbA hpr hbl
        go_wp2_with fail
        refine ⟨⟨_, _, rfl, hprA, hbA', ?_⟩, by show (t.extract (i + 1) t.size).size < t.size; simp; omega⟩
        rw [HD2.out, ← HACC.out]
        conv => rhs; rw [HSP.out.2.1]
        rw [lay_line _ _ _ HSP.out.2.2.1]
        simp [List.append_assoc]


end Go.Proofs.YtalnapcphdmjaaaDoor
