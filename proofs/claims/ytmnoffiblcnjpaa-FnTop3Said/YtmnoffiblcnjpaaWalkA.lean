/-
  FnTop3: the walk; conditions: the sizes of any machine.
-/
import Derived.Test.YtmnoffiblcnjpaaAlq
import Derived.Deep.MidRow
namespace Go.Proofs.Ytmnoffiblcnjpaa
open Go.RowKit Go.Sort

theorem info23 : (Try.prog.info? 23).map (·.size) = some 64 := by kernel_rfl
theorem load_row {f : Nat} {C : Nat → Int} {W : World} {L : List Value} (h : Row W f 23 64 (cf C)) (hL : (List.range 64).map (cf C) = L) : W.rangeAt f 0 L := by
  subst hL
  intro j v hv
  have hj : j < 64 := by have := (List.getElem?_eq_some_iff.1 hv).1; simpa using this
  rw [List.getElem?_map, List.getElem?_range hj] at hv
  rw [Nat.zero_add, h.cell hj]
  exact hv
theorem load_len {C : Nat → Int} {L : List Value} (hL : (List.range 64).map (cf C) = L) : (Try.prog.info? 23).map (·.size) = some L.length := by
  rw [info23, ← hL]
  simp
theorem load_size {C : Nat → Int} {L : List Value} (hL : (List.range 64).map (cf C) = L) : L.toArray.size = 64 ∧ ∀ i, i < 64 → L.toArray[i]? = some (cf C i) := by
  subst hL
  refine ⟨by simp, fun i hi => ?_⟩
  rw [List.getElem?_toArray, List.getElem?_map, List.getElem?_range hi]
  rfl
theorem same_bytes {a b : ByteArray} {l : List UInt8} (h1 : a.data.toList = l) (h2 : b.data.toList = l) : a = b := by rw [← S_L a, ← S_L b, h1, h2]
/-- The two alphabets meet, and are what the numbering asks. -/
theorem meet {Tm : List UInt8} {C : Nat → Int} {H R h t : ByteArray} {d' : Array El} {o : List Nat} (hd : Tm.Nodup) (h2 : 2 ≤ (Tm.filter fun c => !isDig c).length) (h64 : Tm.length ≤ 64)
    (hP : PermIn 0 64 (elB (S Tm).data.toList C (S Tm).size) d') (hS : SortedIn ltE 0 64 d') (hR : R.data.toList = cat d'.toList) (hH : H.data.toList = cat (d'.toList.filter ND))
    (ho : Ordered (S Tm).data.toList C o) (ht : t.data.toList = o.map fun i => (S Tm).data.toList[i]!) (hh : h.data.toList = (o.map fun i => (S Tm).data.toList[i]!).filter fun c => !isDig c) : h = H ∧ t = R ∧ Alph H.data.toList R.data.toList := by
  rw [S_data] at hP ho ht hh
  rw [S_size] at hP
  have e1 := same_tail h64 ho hP hS
  have e2 := same_head h64 ho hP hS
  refine ⟨same_bytes hh (hH.trans e2), same_bytes ht (hR.trans e1), ?_⟩
  rw [hH, hR, e1, e2]
  exact alph_of ho hd h2 h64
def T3Post (w : World) (e : Ending) (w' : World) : Prop := e = .returned (.bool true) ∧ Below w.heap.size w w'
set_option maxHeartbeats 8000000 in
set_option maxRecDepth 100000 in
theorem top_css (s : ByteArray) (dl : Int) (i : Nat) (w : World) (hs : s.size ≤ 1048576) (hi : i < 9223372036854775808) :
    Calls Try.prog 3 #[.string s, .int .i32 dl, .bool true, .int .i64 i] w (T3Post w) := by
  have hd1 : decide ((1048576 : Int) < (s.size : Int)) = false := by simp; omega
  have hd2 : decide ((i : Int) < 0) = false := by simp
  go_enter Try.func3, Try.ntmps3
  go_wp2_with fail
  refine (scan_all w.heap.size s dl _ (tb_new w 23) hs).mono ?_
  rintro e w2 ⟨rfl, hT⟩
  have hws : w2.heap.size = w.heap.size + 1 := by rw [hT.gs.size]; simp
  have HT := Lib.hid hT
  clear hT
  go_wp2_with fail
  refine (def_js _).mono ?_
  rintro e w3 ⟨⟨h1, rfl⟩, hB3⟩
  have HB3 := Lib.hid hB3
  clear hB3
  obtain ⟨C, hC⟩ : ∃ C, cnt dl (fun _ => 0) s.data.toList = C := ⟨_, rfl⟩
  obtain ⟨L, hL⟩ : ∃ L, (List.range 64).map (cf C) = L := ⟨_, rfl⟩
  have hne : ¬ w.heap.size = w3.heap.size := by have := HB3.out.size; omega
  have hne' : ¬ w3.heap.size = w.heap.size := fun e => hne e.symm
  have rF : Row (w3.alloc (.cells #[.string h1, .string (S jsT)] 26)) w.heap.size 23 64 (cf C) := by
    have h := HT.out.row
    rw [hC] at h
    exact (h.below HB3.out h.lt).alloc _
  have hB1 : Below w.heap.size w (w3.alloc (.cells #[.string h1, .string (S jsT)] 26)) :=
    ((((Below.refl _ _).alloc (Nat.le_refl _) _).trans (gs_below HT.out.gs (Nat.le_refl _))).trans (HB3.out.mono (by omega))).alloc (by have := HB3.out.size; omega) _
  go_wp2_with fail
  refine (def_css _).mono ?_
  rintro e w4 ⟨⟨h2, rfl⟩, hB4⟩
  have hm4 : w3.heap.size < w4.heap.size := by have := hB4.size; simp at this; omega
  have hc0 : w4.cell? ⟨w3.heap.size, 0, none⟩ = some (.string h1) := by rw [hB4.cell (p := ⟨w3.heap.size, 0, none⟩) (by simp)]; simp
  have hc1 : w4.cell? ⟨w3.heap.size, 1, none⟩ = some (.string (S jsT)) := by rw [hB4.cell (p := ⟨w3.heap.size, 1, none⟩) (by simp)]; simp
  have hf0 : w4.frozen? ⟨w3.heap.size, 0, none⟩ = false := by rw [hB4.frozen (p := ⟨w3.heap.size, 0, none⟩) (by simp)]; simp
  have hf1 : w4.frozen? ⟨w3.heap.size, 1, none⟩ = false := by rw [hB4.frozen (p := ⟨w3.heap.size, 1, none⟩) (by simp)]; simp
  have hload := load_row (((rF.below hB4 (by have := HB3.out.size; simp; omega)).far (p := ⟨w3.heap.size, 0, none⟩) hne (.string h2)).far (p := ⟨w3.heap.size, 1, none⟩) hne (.string (S (jsT.take 63)))) hL
  have hB5 := ((hB1.trans (hB4.mono (by have := HB3.out.size; simp; omega))).setCell (p := ⟨w3.heap.size, 0, none⟩) (show w.heap.size ≤ w3.heap.size by have := HB3.out.size; omega) (.string h2)).setCell (p := ⟨w3.heap.size, 1, none⟩) (show w.heap.size ≤ w3.heap.size by have := HB3.out.size; omega) (.string (S (jsT.take 63)))
  have HL := Lib.hid (And.intro hC (And.intro hL (And.intro hB5 (And.intro hload (load_len hL)))))
  clear hB4 hB1 hB5 rF hC hL hload
  go_wp2_with (refine wpList_load_mid rfl 23 _ rfl w.heap.size 0 rfl L _ HL.out.2.2.2.1 Try.underlying23 rfl HL.out.2.2.2.2 ?_)
  refine (shf_any h2 (S (jsT.take 63)) C L.toArray (load_size HL.out.2.1).1 (load_size HL.out.2.1).2 _ (by rw [S_size]; decide)).mono ?_
  rintro e w5 ⟨H, R, rfl, ⟨d', hP, hS, hR, hH⟩, hB5⟩
  have HM := Lib.hid (And.intro hP (And.intro hS (And.intro hR (And.intro hH (HL.out.2.2.1.trans (hB5.mono HL.out.2.2.1.size))))))
  clear hP hS hR hH hB5
  go_wp2_with fail
  refine (zsh_any s (S (jsT.take 63)) dl _ hs (by rw [S_size]; decide) (by rw [S_size]; decide) (by rw [S_data]; decide)).mono ?_
  rintro e w6 ⟨h, t, rfl, ⟨o, ho, ht, hh⟩, hB6⟩
  obtain ⟨rfl, rfl, hA⟩ := meet css_nodup (by rw [css_heads]; decide) (by decide) HM.out.1 HM.out.2.1 HM.out.2.2.1 HM.out.2.2.2.1 (HL.out.1 ▸ ho) ht hh
  have n1 := size_len h
  have n2 := size_len t
  have z1 := hA.h2
  have z2 := hA.r2
  have z3 := hA.h64
  have z4 := hA.r64
  rw [n1] at z1 z3
  rw [n2] at z2 z4
  have hm6 : w5.heap.size < w6.heap.size := by have := hB6.size; simp at this; omega
  have hc0 : w6.cell? ⟨w5.heap.size, 0, none⟩ = some (.string h) := by rw [hB6.cell (p := ⟨w5.heap.size, 0, none⟩) (by simp)]; simp
  have hc1 : w6.cell? ⟨w5.heap.size, 1, none⟩ = some (.string t) := by rw [hB6.cell (p := ⟨w5.heap.size, 1, none⟩) (by simp)]; simp
  have hB7 : Below w.heap.size w w6 := (HM.out.2.2.2.2.alloc HM.out.2.2.2.2.size _).trans (hB6.mono (by have := HM.out.2.2.2.2.size; simp; omega))
  have HK := Lib.hid (And.intro hA hB7)
  have HCC := Lib.hid (And.intro hc0 hc1)
  clear ho ht hh hB6 hA hB7 n1 n2
  go_wp2_with fail
  refine (num_any h t i hi z1 z2 z3 z4 _).mono ?_
  rintro e w7 ⟨rfl, hB8⟩
  have HB8 := Lib.hid hB8
  clear hB8
  go_wp2_with fail
  refine (ok_any _ h t i rfl hi z1 z2 z3 z4 HK.out.1.hd HK.out.1.rd _).mono ?_
  rintro e w8 ⟨rfl, hB9⟩
  have HB9 := Lib.hid (HB8.out.trans (hB9.mono HB8.out.size))
  clear hB9
  go_wp2_with fail
  go_loopw [15] (fun s15 wr => ∃ k : Nat, s15 = .int .i64 k ∧ k ≤ 256 ∧ Below w6.heap.size w6 wr) (fun s15 _ => 256 - (intOf s15).toNat)
  case atStart => exact ⟨0, rfl, by omega, HB9.out⟩
  case round =>
    obtain ⟨k, rfl, hk, hB⟩ := hrel
    by_cases hlt : k < 256
    · have hm8 : w5.heap.size < wr.heap.size := by have := hB.size; omega
      have c0 : wr.cell? ⟨w5.heap.size, 0, none⟩ = some (.string h) := by rw [hB.cell (p := ⟨w5.heap.size, 0, none⟩) hm6]; exact HCC.out.1
      have c1 : wr.cell? ⟨w5.heap.size, 1, none⟩ = some (.string t) := by rw [hB.cell (p := ⟨w5.heap.size, 1, none⟩) hm6]; exact HCC.out.2
      have HB := Lib.hid hB
      clear hB
      go_wp2_with fail
      refine (num_any h t k (by omega) z1 z2 z3 z4 _).mono ?_
      rintro e w9 ⟨rfl, hB9⟩
      have HB1 := Lib.hid (HB.out.trans (hB9.mono HB.out.size))
      clear hB9
      go_wp2_with fail
      refine (ok_any _ h t k rfl (by omega) z1 z2 z3 z4 HK.out.1.hd HK.out.1.rd _).mono ?_
      rintro e w10 ⟨rfl, hB10⟩
      have HB2 := Lib.hid (HB1.out.trans (hB10.mono HB1.out.size))
      clear hB10
      go_wp2_with fail
      go_roundw
      case rel => exact ⟨k + 1, by go_num, by omega, HB2.out⟩
      case measure => simp [intOf]; omega
    · have HB := Lib.hid (HK.out.2.trans (hB.mono HK.out.2.size))
      clear hB
      obtain rfl : k = 256 := by omega
      go_wp2_with fail
      go_ret
      exact ⟨rfl, HB.out⟩
set_option maxHeartbeats 8000000 in
set_option maxRecDepth 100000 in
theorem top_js (s : ByteArray) (dl : Int) (i : Nat) (w : World) (hs : s.size ≤ 1048576) (hi : i < 9223372036854775808) :
    Calls Try.prog 3 #[.string s, .int .i32 dl, .bool false, .int .i64 i] w (T3Post w) := by
  have hd1 : decide ((1048576 : Int) < (s.size : Int)) = false := by simp; omega
  have hd2 : decide ((i : Int) < 0) = false := by simp
  go_enter Try.func3, Try.ntmps3
  go_wp2_with fail
  refine (scan_all w.heap.size s dl _ (tb_new w 23) hs).mono ?_
  rintro e w2 ⟨rfl, hT⟩
  have hws : w2.heap.size = w.heap.size + 1 := by rw [hT.gs.size]; simp
  have HT := Lib.hid hT
  clear hT
  go_wp2_with fail
  refine (def_js _).mono ?_
  rintro e w3 ⟨⟨h1, rfl⟩, hB3⟩
  have HB3 := Lib.hid hB3
  clear hB3
  obtain ⟨C, hC⟩ : ∃ C, cnt dl (fun _ => 0) s.data.toList = C := ⟨_, rfl⟩
  obtain ⟨L, hL⟩ : ∃ L, (List.range 64).map (cf C) = L := ⟨_, rfl⟩
  have hne : ¬ w.heap.size = w3.heap.size := by have := HB3.out.size; omega
  have hne' : ¬ w3.heap.size = w.heap.size := fun e => hne e.symm
  have rF : Row (w3.alloc (.cells #[.string h1, .string (S jsT)] 26)) w.heap.size 23 64 (cf C) := by
    have h := HT.out.row
    rw [hC] at h
    exact (h.below HB3.out h.lt).alloc _
  have hB1 : Below w.heap.size w (w3.alloc (.cells #[.string h1, .string (S jsT)] 26)) :=
    ((((Below.refl _ _).alloc (Nat.le_refl _) _).trans (gs_below HT.out.gs (Nat.le_refl _))).trans (HB3.out.mono (by omega))).alloc (by have := HB3.out.size; omega) _
  have hload := load_row rF hL
  have HL := Lib.hid (And.intro hC (And.intro hL (And.intro hB1 (And.intro hload (load_len hL)))))
  clear hB1 rF hC hL hload
  go_wp2_with (refine wpList_load_mid rfl 23 _ rfl w.heap.size 0 rfl L _ HL.out.2.2.2.1 Try.underlying23 rfl HL.out.2.2.2.2 ?_)
  refine (shf_any h1 (S jsT) C L.toArray (load_size HL.out.2.1).1 (load_size HL.out.2.1).2 _ (by rw [S_size]; decide)).mono ?_
  rintro e w5 ⟨H, R, rfl, ⟨d', hP, hS, hR, hH⟩, hB5⟩
  have HM := Lib.hid (And.intro hP (And.intro hS (And.intro hR (And.intro hH (HL.out.2.2.1.trans (hB5.mono HL.out.2.2.1.size))))))
  clear hP hS hR hH hB5
  go_wp2_with fail
  refine (zsh_any s (S jsT) dl _ hs (by rw [S_size]; decide) (by rw [S_size]; decide) (by rw [S_data]; decide)).mono ?_
  rintro e w6 ⟨h, t, rfl, ⟨o, ho, ht, hh⟩, hB6⟩
  obtain ⟨rfl, rfl, hA⟩ := meet js_nodup (by rw [js_heads]; decide) (by decide) HM.out.1 HM.out.2.1 HM.out.2.2.1 HM.out.2.2.2.1 (HL.out.1 ▸ ho) ht hh
  have n1 := size_len h
  have n2 := size_len t
  have z1 := hA.h2
  have z2 := hA.r2
  have z3 := hA.h64
  have z4 := hA.r64
  rw [n1] at z1 z3
  rw [n2] at z2 z4
  have hm6 : w5.heap.size < w6.heap.size := by have := hB6.size; simp at this; omega
  have hc0 : w6.cell? ⟨w5.heap.size, 0, none⟩ = some (.string h) := by rw [hB6.cell (p := ⟨w5.heap.size, 0, none⟩) (by simp)]; simp
  have hc1 : w6.cell? ⟨w5.heap.size, 1, none⟩ = some (.string t) := by rw [hB6.cell (p := ⟨w5.heap.size, 1, none⟩) (by simp)]; simp
  have hB7 : Below w.heap.size w w6 := (HM.out.2.2.2.2.alloc HM.out.2.2.2.2.size _).trans (hB6.mono (by have := HM.out.2.2.2.2.size; simp; omega))
  have HK := Lib.hid (And.intro hA hB7)
  have HCC := Lib.hid (And.intro hc0 hc1)
  clear ho ht hh hB6 hA hB7 n1 n2
  go_wp2_with fail
  refine (num_any h t i hi z1 z2 z3 z4 _).mono ?_
  rintro e w7 ⟨rfl, hB8⟩
  have HB8 := Lib.hid hB8
  clear hB8
  go_wp2_with fail
  refine (ok_any _ h t i rfl hi z1 z2 z3 z4 HK.out.1.hd HK.out.1.rd _).mono ?_
  rintro e w8 ⟨rfl, hB9⟩
  have HB9 := Lib.hid (HB8.out.trans (hB9.mono HB8.out.size))
  clear hB9
  go_wp2_with fail
  go_loopw [15] (fun s15 wr => ∃ k : Nat, s15 = .int .i64 k ∧ k ≤ 256 ∧ Below w6.heap.size w6 wr) (fun s15 _ => 256 - (intOf s15).toNat)
  case atStart => exact ⟨0, rfl, by omega, HB9.out⟩
  case round =>
    obtain ⟨k, rfl, hk, hB⟩ := hrel
    by_cases hlt : k < 256
    · have hm8 : w5.heap.size < wr.heap.size := by have := hB.size; omega
      have c0 : wr.cell? ⟨w5.heap.size, 0, none⟩ = some (.string h) := by rw [hB.cell (p := ⟨w5.heap.size, 0, none⟩) hm6]; exact HCC.out.1
      have c1 : wr.cell? ⟨w5.heap.size, 1, none⟩ = some (.string t) := by rw [hB.cell (p := ⟨w5.heap.size, 1, none⟩) hm6]; exact HCC.out.2
      have HB := Lib.hid hB
      clear hB
      go_wp2_with fail
      refine (num_any h t k (by omega) z1 z2 z3 z4 _).mono ?_
      rintro e w9 ⟨rfl, hB9⟩
      have HB1 := Lib.hid (HB.out.trans (hB9.mono HB.out.size))
      clear hB9
      go_wp2_with fail
      refine (ok_any _ h t k rfl (by omega) z1 z2 z3 z4 HK.out.1.hd HK.out.1.rd _).mono ?_
      rintro e w10 ⟨rfl, hB10⟩
      have HB2 := Lib.hid (HB1.out.trans (hB10.mono HB1.out.size))
      clear hB10
      go_wp2_with fail
      go_roundw
      case rel => exact ⟨k + 1, by go_num, by omega, HB2.out⟩
      case measure => simp [intOf]; omega
    · have HB := Lib.hid (HK.out.2.trans (hB.mono HK.out.2.size))
      clear hB
      obtain rfl : k = 256 := by omega
      go_wp2_with fail
      go_ret
      exact ⟨rfl, HB.out⟩
set_option maxRecDepth 100000 in
theorem top_long (s : ByteArray) (dl : Int) (css : Bool) (i : Int) (w : World) (hs : 1048576 < s.size) : Calls Try.prog 3 #[.string s, .int .i32 dl, .bool css, .int .i64 i] w (T3Post w) := by
  go_enter Try.func3, Try.ntmps3
  go_wp2_with fail
  go_ret
  exact ⟨rfl, Below.refl _ _⟩
set_option maxRecDepth 100000 in
theorem top_neg (s : ByteArray) (dl : Int) (css : Bool) (i : Int) (w : World) (hs : ¬ 1048576 < s.size) (hi : i < 0) : Calls Try.prog 3 #[.string s, .int .i32 dl, .bool css, .int .i64 i] w (T3Post w) := by
  go_enter Try.func3, Try.ntmps3
  go_wp2_with fail
  go_ret
  exact ⟨rfl, Below.refl _ _⟩
theorem fnTop3_walk (s : ByteArray) (dl : Int) (css : Bool) (i : Int) (w : World) (_ : s.size ≤ maxLen) (_ : (Lit.int .i32 dl).wf = true) (w3 : (Lit.int .i64 i).wf = true) :
    Calls Try.prog 3 #[.string s, .int .i32 dl, .bool css, .int .i64 i] w fun e w' => e = .returned (.bool true) ∧ Below w.heap.size w w' := by
  by_cases hs : 1048576 < s.size
  · exact top_long s dl css i w hs
  · by_cases hi : i < 0
    · exact top_neg s dl css i w hs hi
    · have hr : i ≤ 9223372036854775807 := by
        simp [Lit.wf] at w3
        exact w3.2
      obtain ⟨n, rfl⟩ : ∃ n : Nat, i = n := ⟨i.toNat, by omega⟩
      cases css
      · exact top_js s dl n w (by omega) (by omega)
      · exact top_css s dl n w (by omega) (by omega)
end Go.Proofs.Ytmnoffiblcnjpaa
