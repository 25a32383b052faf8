/-
  The URL of a path (broadcastBuildResult's inner function), for whatever function answers fmt and says what it is told; conditions: those that each lemma names.
-/
import Derived.Test.YtglchiomdojjoaaGreatFmtSta
import Derived.Test.YtglchiomdojjoaaGreatFmtFts
import Derived.Test.YtglchiomdojjoaaGreatFmtShelf
import Derived.Test.YtglchiomdojjoaaGreatFmtRepl
import Derived.Lib.CleanSame
import Derived.Stop.AnyFormat
namespace Go.Proofs.YtglchiomdojjoaaGreatFmt
open Go.RowKit Go.Extern.Stop Go.Stop Go.Extern

theorem els_one : ∀ {l : List UInt8}, 47 ∉ l → Lib.Pa.els l = [l]
  | [], _ => rfl
  | c :: t, h => by
    have hc : c ≠ 47 := fun e => h (by rw [e]; exact List.mem_cons_self)
    have ht : 47 ∉ t := fun e => h (List.mem_cons_of_mem _ e)
    rw [Lib.Pa.els, if_neg hc, els_one ht]
theorem clean_one {l : List UInt8} (h47 : 47 ∉ l) (h0 : l ≠ []) (h1 : l ≠ [46]) (h2 : l ≠ [46, 46]) : Lib.Pa.clean l = l := by
  rw [Lib.Pa.clean_eq_cleanEls, Lib.Pa.cleanEls_rel l h0 (by
    cases l with
    | nil => exact absurd rfl h0
    | cons c t =>
      have hc : c ≠ 47 := fun e => h47 (by rw [e]; exact List.mem_cons_self)
      simpa using hc), els_one h47]
  have e : ([l].foldl (Lib.Pa.cleanStep false) []).reverse = [l] := by
    simp [Lib.Pa.cleanStep, h0, h1, h2]
  rw [e]
  simp [h0]
theorem join_one {l : List UInt8} (h47 : 47 ∉ l) (h0 : l ≠ []) (h1 : l ≠ [46]) (h2 : l ≠ [46, 46]) : Lib.Pa.joinL [[], l] = l := by
  have e : Lib.Pa.joinBuf [[], l] = l := rfl
  unfold Lib.Pa.joinL
  rw [e, if_neg h0]
  exact clean_one h47 h0 h1 h2
structure NameL (l : List UInt8) : Prop where
  h47 : 47 ∉ l
  h92 : 92 ∉ l
  h0 : l ≠ []
  h1 : l ≠ [46]
  h2 : l ≠ [46, 46]
theorem nm_ne {c : UInt8} (h : NmC c) : c ≠ 47 ∧ c ≠ 92 ∧ c ≠ 34 := by
  unfold NmC at h
  refine ⟨?_, ?_, ?_⟩ <;> (rintro rfl; revert h; decide)
theorem NameS.nameL {s : ByteArray} (h : NameS s) : NameL s.data.toList := by
  obtain ⟨ha, e0, e1, e2⟩ := h
  rw [Lib.toList_data] at e0 e1 e2
  exact ⟨fun hm => (nm_ne (ha _ hm)).1 rfl, fun hm => (nm_ne (ha _ hm)).2.1 rfl, fun e => (by rw [e] at e0; cases e0), fun e => (by rw [e] at e1; cases e1), fun e => (by rw [e] at e2; cases e2)⟩
theorem repl_same {l : List UInt8} (h : 92 ∉ l) (n : Nat) (hn : l.length ≤ n) : repl [92] [47] n l = l := by
  rw [repl_one 92 [47] n l hn]
  induction l generalizing n with
  | nil => rfl
  | cons c t ih =>
    have hc : c ≠ 92 := fun e => h (by rw [e]; exact List.mem_cons_self)
    rw [List.flatMap_cons, if_neg hc, ih (fun e => h (List.mem_cons_of_mem _ e)) t.length (Nat.le_refl _)]
    rfl
/-- The slash between the public path and a name. -/
def slashL (p : List UInt8) : List UInt8 := if p ≠ [] ∧ Lib.hasSuffix p [47] = true then [] else [47]
def urlL (p l : List UInt8) : List UInt8 := p ++ slashL p ++ l
theorem slash_le (p : List UInt8) : (slashL p).length ≤ 1 := by unfold slashL; split <;> simp
theorem call32 (args : Array Value) (w : World) : (callFunc 32 args).run Tryz.prog w = ((FmtStop.sprintf #[9, 177] #[9] args).run Tryz.prog w).andThen fun v w' => .ok (.value v) w' :=
  run_callFunc_extern Tryz.func32 (by kernel_rfl) (by kernel_rfl) (by kernel_rfl) (by kernel_rfl) args w
theorem guard (name : String) (w : World) : (FmtStop.guard name).run Tryz.prog w = .ok () w := by kernel_rfl
def shape9 : List UInt8 := [12, 6, 0, 0, 0, 0, 0, 0, 0, 115, 116, 114, 105, 110, 103]
theorem op9_115 (name : String) (x : ByteArray) (w : World) : (FmtStop.operand name false 115 false (.iface 9 (.string x))).run Tryz.prog w = .ok (shape9, FmtStop.pack x.data.toList) w := by kernel_rfl
theorem fmt3 : FmtStop.printed? ⟨#[37, 115, 37, 115, 37, 115]⟩ 3 = some [(0, 115, false), (1, 115, false), (2, 115, false)] := by kernel_rfl
theorem fmt3r (w : World) : (FmtDoors.printed ⟨#[37, 115, 37, 115, 37, 115]⟩ 3).run Tryz.prog w = .ok [(0, 115, false), (1, 115, false), (2, 115, false)] w := by kernel_rfl
def f3 : List UInt8 := [37, 115, 37, 115, 37, 115]
/-- What fmt is asked. -/
def ask3 (x y z : List UInt8) : List (List UInt8) := [f3, shape9, FmtStop.pack x, shape9, FmtStop.pack y, shape9, FmtStop.pack z]
/-- fmt answers the three texts in a row. -/
structure Says (F : Interp) : Prop where
  t : ∀ x y z : ByteArray, x.size ≤ 16777216 → y.size ≤ 16777216 → z.size ≤ 16777216 → FmtStop.textOf (F "fmt.Sprintf" (ask3 x.data.toList y.data.toList z.data.toList) 0) = S (x.data.toList ++ y.data.toList ++ z.data.toList)
theorem ix_t (w : World) : Calls Tryz.prog 42 #[.string ⟨#[92, 47]⟩, .int .u8 116] w fun e w' => e = .returned (.int .i64 (-1)) ∧ w' = w := Tryz.strings_IndexByte ⟨#[92, 47]⟩ 116 w
theorem ix_s (w : World) : Calls Tryz.prog 42 #[.string ⟨#[92, 47]⟩, .int .u8 47] w fun e w' => e = .returned (.int .i64 1) ∧ w' = w := Tryz.strings_IndexByte ⟨#[92, 47]⟩ 47 w
theorem hp_out (s : ByteArray) : Lib.hasPrefix (outK s).data.toList outS.data.toList = true := by
  unfold outK outL
  rw [S_data]
  rfl
theorem out_drop (s : ByteArray) : (outK s).extract 5 (outK s).size = s := by
  have e : (outK s).data.toList = outL s.data.toList := S_data _
  rw [extract_S, e]
  have h2 : ((outL s.data.toList).drop 5).take ((outK s).size - 5) = s.data.toList := by
    show s.data.toList.take ((outK s).size - 5) = s.data.toList
    rw [outK_size, List.take_of_length_le (by rw [← Lib.size_eq]; omega)]
  rw [h2]
  exact Lib.mk_data s
theorem out_4 (s : ByteArray) (h : 4 < (outK s).size) : (outK s)[4] = 47 := by
  have e := at_get (outK s) 4 h
  rw [← e]
  unfold outK outL
  rw [S_data]
  rfl
set_option maxHeartbeats 2000000 in
set_option maxRecDepth 100000 in
theorem strip_at (q s : ByteArray) (w : World) (hp : Lib.hasPrefix q.data.toList outS.data.toList = true) (hd : q.extract 5 q.size = s) (hz : 5 < q.size) (hle : q.size ≤ 2000000) (h4 : (q[4]'(by omega)).toNat = 47) :
    Calls Tryz.prog 28 #[.string q, .string outS, .string ⟨#[92, 47]⟩] w fun e w' => e = .returned (.tuple #[.string s, .bool true]) ∧ w = w' := by
  have hc := Tryz.strings_HasPrefix q outS w
  rw [hp] at hc
  have h3 : (outS[3]'(by decide)).toNat = 116 := rfl
  have H := Lib.hid hc
  have ho : outS.size = 4 := rfl
  have HO := Lib.hid (And.intro ho hp)
  have i1 := ix_t
  have i2 := ix_s
  clear hp hc ho
  go_enter Tryz.func28, Tryz.ntmps28
  go_wp2_with fail
  refine H.out.mono ?_
  rintro e w' ⟨rfl, hw⟩
  obtain rfl := hw.symm
  have hos : outS.size = 4 := HO.out.1
  go_wp2_with fail
  refine (i1 _).mono ?_
  rintro e w' ⟨rfl, hw⟩
  obtain rfl := hw.symm
  go_wp2_with fail
  refine (i2 _).mono ?_
  rintro e w' ⟨rfl, hw⟩
  obtain rfl := hw.symm
  go_wp2_with fail
  go_ret2
  exact ⟨by first | rfl | rw [hd], rfl⟩
theorem strip_any (s : ByteArray) (w : World) (hs : s.size ≤ 1048576) (h0 : 0 < s.size) :
    Calls Tryz.prog 28 #[.string (outK s), .string outS, .string ⟨#[92, 47]⟩] w fun e w' => e = .returned (.tuple #[.string s, .bool true]) ∧ w = w' := by
  have hsz := outK_size s
  exact strip_at (outK s) s w (hp_out s) (out_drop s) (by omega) (by omega) (by rw [out_4 s (by omega)]; rfl)
theorem join_any (s : ByteArray) (w : World) (h : s.size + 2 ≤ 281474976710656) (hn : NameL s.data.toList) :
    Calls Tryz.prog 30 #[.slice (some ⟨w.heap.size, 0, none⟩) 2 2] (w.alloc (.cells #[.string ⟨#[]⟩, .string s] 9)) fun e w' => e = .returned (.string s) ∧ Below w.heap.size w w' := by
  refine (Tryz.path_Join w.heap.size 0 2 [⟨#[]⟩, s] (w.alloc (.cells #[.string ⟨#[]⟩, .string s] 9)) ?_ (by simp) ?_).mono ?_
  · intro j y hy
    rw [Nat.zero_add]
    match j, hy with
    | 0, hy =>
      have : (⟨#[]⟩ : ByteArray) = y := by simpa using hy
      subst this
      go_simp
    | 1, hy =>
      have : s = y := by simpa using hy
      subst this
      go_simp
    | j + 2, hy => simp at hy
  · simp only [List.map_cons, List.map_nil, Lib.Pa.lens, List.sum_cons, List.sum_nil, List.length_cons, List.length_nil]
    rw [← Lib.size_eq]
    omega
  · rintro e w' ⟨he, hb⟩
    refine ⟨?_, ((Below.refl w.heap.size w).alloc (Nat.le_refl _) _).trans (hb.mono (by simp))⟩
    rw [he]
    have e2 : Lib.Pa.joinL ([⟨#[]⟩, s].map (·.data.toList)) = s.data.toList := join_one hn.h47 hn.h0 hn.h1 hn.h2
    rw [e2]
/-- What a URL needs of the name. -/
theorem repl_name (s : ByteArray) (w : World) (hs : s.size ≤ 1048576) (hn : NameL s.data.toList) : Calls Tryz.prog 29 #[.string s, .string ⟨#[92]⟩, .string ⟨#[47]⟩] w fun e w' => e = .returned (.string s) ∧ Below w.heap.size w w' := by
  refine (replaceAll_any s ⟨#[92]⟩ ⟨#[47]⟩ w (by decide) (by decide) (by have e : (⟨#[47]⟩ : ByteArray).size = 1 := rfl; rw [e]; omega) (by decide)).mono ?_
  rintro e w' ⟨rfl, hb⟩
  refine ⟨ret_str ?_, hb⟩
  show S (repl [92] [47] s.size s.data.toList) = s
  rw [repl_same hn.h92 _ (by rw [← Lib.size_eq]; exact Nat.le_refl _)]
  exact S_L s
def slashS (p : ByteArray) : ByteArray := S (slashL p.data.toList)
theorem url_slash {p l : List UInt8} (h : ¬ (p ≠ [] ∧ Lib.hasSuffix p [47] = true)) : p ++ (⟨#[47]⟩ : ByteArray).data.toList ++ l = urlL p l := by
  unfold urlL slashL
  rw [if_neg h]
theorem url_none {p l : List UInt8} (h0 : p ≠ []) (h : Lib.hasSuffix p [47] = true) : p ++ (⟨#[]⟩ : ByteArray).data.toList ++ l = urlL p l := by
  unfold urlL slashL
  rw [if_pos ⟨h0, h⟩]
theorem ret_url {a b : ByteArray} (h : a = b) : Ending.returned (.tuple #[.string a, .bool true]) = .returned (.tuple #[.string b, .bool true]) := by rw [h]
def UrlPost (pub name : ByteArray) (w : World) (e : Ending) (w' : World) : Prop := e = .returned (.tuple #[.string (S (urlL pub.data.toList name.data.toList)), .bool true]) ∧ Below w.heap.size w w'
set_option maxHeartbeats 4000000 in
set_option maxRecDepth 100000 in
theorem url_any (F : Interp) (n m bx : Nat) (pub name : ByteArray) (buf : Array Value) (w : World) (hF : F.answers w.tape) (hS : Says F) (h : HA n pub m buf w) (hbx : w.cell? ⟨bx, 0, none⟩ = some (.pointer (some ⟨n + 2, 0, none⟩))) (hbl : bx < w.heap.size)
    (hN : NameS name) (hns : name.size ≤ 1048576) (hps : pub.size ≤ 1048576) : Calls Tryz.prog 27 #[.string (outK name), .pointer (some ⟨bx, 0, none⟩)] w (UrlPost pub name w) := by
  have hL := hN.nameL
  have hn0 : 0 < name.size := by
    rw [Lib.size_eq]
    exact List.length_pos_iff.2 hL.h0
  obtain ⟨c4, c5, c6, _, _, _⟩ := h.cells
  have HH := Lib.hid (And.intro h (And.intro hbx (And.intro hF (And.intro hS hL))))
  have HSt := Lib.hid (strip_any name w hns hn0)
  have HRp := Lib.hid (repl_name name w hns hL)
  clear h hL hF hS hN
  go_enter Tryz.func27, Tryz.ntmps27
  go_wp2_with fail
  refine HSt.out.mono ?_
  rintro e w' ⟨rfl, hw⟩
  obtain rfl := hw
  go_wp2_with fail
  refine HRp.out.mono ?_
  rintro e w1 ⟨rfl, hB1⟩
  have h1 := HH.out.1.up hB1
  have hbx1 : w1.cell? ⟨bx, 0, none⟩ = some (.pointer (some ⟨n + 2, 0, none⟩)) := by rw [hB1.cell (p := ⟨bx, 0, none⟩) hbl]; exact HH.out.2.1
  obtain ⟨k4, k5, k6, _, _, _⟩ := h1.cells
  have H1 := Lib.hid (And.intro h1 hB1)
  have hbl1 : bx < w1.heap.size := by have := hB1.size; omega
  clear h1 hB1 c4 c5 c6
  go_wp2_with fail
  refine (join_any name w1 (by omega) HH.out.2.2.2.2).mono ?_
  rintro e w2 ⟨rfl, hB2⟩
  have h2 := H1.out.1.up hB2
  have hbx2 : w2.cell? ⟨bx, 0, none⟩ = some (.pointer (some ⟨n + 2, 0, none⟩)) := by rw [hB2.cell (p := ⟨bx, 0, none⟩) hbl1]; exact hbx1
  obtain ⟨j4, j5, j6, _, _, _⟩ := h2.cells
  have HB := Lib.hid (H1.out.2.trans (hB2.mono H1.out.2.size))
  have HW12 := Lib.hid hB2.size
  have htp : F.answers w2.tape := by rw [HB.out.tape]; exact HH.out.2.2.1
  clear h2 hB2 k4 k5 k6 hbx1
  have hF' := answers_open htp
  have g1 := call32
  have g2 := guard
  have g3 := fmt3
  have g4 := fmt3r
  have g5 := op9_115
  have hw12 : w1.heap.size ≤ w2.heap.size := HW12.out
  cases e0 : pub.toList.isEmpty with
  | true =>
    have HE := Lib.hid e0
    go_wp2_with fail
    go_ret2
    refine ⟨ret_url ((HH.out.2.2.2.1.t pub ⟨#[47]⟩ name (by omega) (by decide) (by omega)).trans (congrArg S ?_)), HB.out.trans (((Below.refl _ _).alloc (Nat.le_refl _) _).drew.mono (Nat.le_trans H1.out.2.size (by assumption)))⟩
    exact url_slash (fun h => h.1 (by have := HE.out; rw [Lib.toList_data] at this; exact List.isEmpty_iff.1 this))
  | false =>
    have HE := Lib.hid e0
    have hsf := Tryz.strings_HasSuffix pub ⟨#[47]⟩ w2 (by omega)
    cases e1 : Lib.hasSuffix pub.data.toList [47] with
    | true =>
      have HX := Lib.hid e1
      have hsf2 : Calls Tryz.prog 31 #[.string pub, .string ⟨#[47]⟩] w2 fun e w' => e = .returned (.bool true) ∧ w' = w2 := by
        have e2 : Lib.hasSuffix pub.data.toList (⟨#[47]⟩ : ByteArray).data.toList = true := e1
        rwa [e2] at hsf
      have HSF := Lib.hid hsf2
      clear hsf hsf2 e1
      go_wp2_with fail
      refine HSF.out.mono ?_
      rintro e w' ⟨rfl, hw⟩
      obtain rfl := hw
      go_wp2_with fail
      go_ret2
      refine ⟨ret_url ((HH.out.2.2.2.1.t pub ⟨#[]⟩ name (by omega) (by decide) (by omega)).trans (congrArg S ?_)), HB.out.trans (((Below.refl _ _).alloc (Nat.le_refl _) _).drew.mono (Nat.le_trans H1.out.2.size (by assumption)))⟩
      exact url_none (fun e => by have := HE.out; rw [Lib.toList_data, e] at this; cases this) HX.out
    | false =>
      have HX := Lib.hid e1
      have hsf2 : Calls Tryz.prog 31 #[.string pub, .string ⟨#[47]⟩] w2 fun e w' => e = .returned (.bool false) ∧ w' = w2 := by
        have e2 : Lib.hasSuffix pub.data.toList (⟨#[47]⟩ : ByteArray).data.toList = false := e1
        rwa [e2] at hsf
      have HSF := Lib.hid hsf2
      clear hsf hsf2 e1
      go_wp2_with fail
      refine HSF.out.mono ?_
      rintro e w' ⟨rfl, hw⟩
      obtain rfl := hw
      go_wp2_with fail
      go_ret2
      refine ⟨ret_url ((HH.out.2.2.2.1.t pub ⟨#[47]⟩ name (by omega) (by decide) (by omega)).trans (congrArg S ?_)), HB.out.trans (((Below.refl _ _).alloc (Nat.le_refl _) _).drew.mono (Nat.le_trans H1.out.2.size (by assumption)))⟩
      exact url_slash (fun h => by rw [HX.out] at h; cases h.2)
end Go.Proofs.YtglchiomdojjoaaGreatFmt
