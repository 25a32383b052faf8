/-
  The contract of respondWithDirList: the listing page, for whatever function answers fmt as fmt's texts say; conditions: the sizes that it names.
-/
import Derived.Test.YtpjpdeecpobmlaaFmtLbc
import Derived.Test.YtpjpdeecpobmlaaFmtMark
import Derived.Test.YtpjpdeecpobmlaaFmtEhc
import Derived.Test.YtpjpdeecpobmlaaFmtRows
import Derived.Stop.CallBack
import Derived.Stop.IfaceNil
import GoSem.ClaimData
import Derived.WalkKit
import Derived.WalkSpells
import Derived.WalkLawsBesides
import Derived.Laws.Concat
import Derived.Deep.CutBlock
namespace Go.Proofs.YtpjpdeecpobmlaaFmt
open Go.RowKit Go.Maps Go.Sort

/-- The builder in block B holds l, at most n bytes; below B nothing differs from w0. -/
def Bx (B : Nat) (w0 : World) (l : List UInt8) (n : Nat) (w : World) : Prop := Bld B B l w ∧ Below B w0 w ∧ l.length ≤ n
section
variable {B n m : Nat} {w0 w w' : World} {l : List UInt8}
theorem Bx.lt (h : Bx B w0 l n w) : B < w.heap.size := by
  obtain ⟨cs, hcs⟩ := h.1.at
  exact (Array.getElem?_eq_some_iff.1 hcs).1
theorem Bx.up (h : Bx B w0 l n w) (hb : Below w.heap.size w w') : Bx B w0 l n w' := ⟨h.1.below hb, h.2.1.trans (hb.mono (Nat.le_of_lt h.lt)), h.2.2⟩
theorem Bx.to {l' : List UInt8} (h : Bx B w0 l n w) (hl : l = l') (hm : l'.length ≤ m) : Bx B w0 l' m w := by subst hl; exact ⟨h.1, h.2.1, hm⟩
theorem Bx.grown (h : Bx B w0 l n w) {r : Nat} (hB : B ≤ r) (hg : w.grownBy w' (some r)) (hr : ∀ c t fz, w.heap[r]? = some (.cells c t fz) → t = 9) : Bx B w0 l n w' :=
  ⟨h.1.grown hg hr, h.2.1.grown hg (Nat.le_of_lt h.lt) (fun k hk => by cases hk; exact hB), h.2.2⟩
end
theorem write_x {B n : Nat} {w0 : World} {l : List UInt8} (s : ByteArray) (w : World) (h : Bx B w0 l n w) (hm : n + s.size ≤ 140737488355328) :
    Calls Tryf.prog 14 #[.pointer (some ⟨B, 0, none⟩), .string s] w fun e w' => e = .returned (.tuple #[.int .i64 s.size, .nilIface]) ∧ Bx B w0 (l ++ s.data.toList) (n + s.size) w' ∧ Kept B w w' := by
  have hl := h.2.2
  refine (writeString_k B B l s w h.1 (by omega) (Nat.le_of_lt h.lt)).mono ?_
  rintro e w' ⟨he, h1, h2, h3⟩
  refine ⟨he, ⟨h1, h.2.1.trans h2, ?_⟩, h3⟩
  rw [List.length_append, ← Lib.size_eq]
  omega

/-! ### fmt -/
open Go.Extern.Stop Go.Stop Go.Extern
theorem call20 (args : Array Value) (w : World) : (callFunc 20 args).run Tryf.prog w = ((FmtStop.sprintf #[9, 99] #[9] args).run Tryf.prog w).andThen fun v w' => .ok (.value v) w' :=
  run_callFunc_extern Tryf.func20 (by kernel_rfl) (by kernel_rfl) (by kernel_rfl) (by kernel_rfl) args w
theorem guard (name : String) (w : World) : (FmtStop.guard name).run Tryf.prog w = .ok () w := by kernel_rfl
def shape9 : List UInt8 := [12, 6, 0, 0, 0, 0, 0, 0, 0, 115, 116, 114, 105, 110, 103]
theorem op9_115 (name : String) (x : ByteArray) (w : World) : (FmtStop.operand name false 115 false (.iface 9 (.string x))).run Tryf.prog w = .ok (shape9, FmtStop.pack x.data.toList) w := by kernel_rfl
def fP : List UInt8 := [60, 100, 105, 118, 62, 240, 159, 147, 129, 32, 60, 97, 32, 104, 114, 101, 102, 61, 34, 37, 115, 34, 62, 46, 46, 47, 60, 47, 97, 62, 60, 47, 100, 105, 118, 62, 10]
def fD : List UInt8 := [60, 100, 105, 118, 62, 240, 159, 147, 129, 32, 60, 97, 32, 104, 114, 101, 102, 61, 34, 37, 115, 47, 34, 62, 37, 115, 47, 60, 47, 97, 62, 60, 47, 100, 105, 118, 62, 10]
def fF : List UInt8 := [60, 100, 105, 118, 62, 240, 159, 147, 132, 32, 60, 97, 32, 104, 114, 101, 102, 61, 34, 37, 115, 34, 62, 37, 115, 60, 47, 97, 62, 60, 47, 100, 105, 118, 62, 10]
theorem fmtP : FmtStop.printed? ⟨#[60, 100, 105, 118, 62, 240, 159, 147, 129, 32, 60, 97, 32, 104, 114, 101, 102, 61, 34, 37, 115, 34, 62, 46, 46, 47, 60, 47, 97, 62, 60, 47, 100, 105, 118, 62, 10]⟩ 1 = some [(0, 115, false)] := by kernel_rfl
theorem fmtPr (w : World) : (FmtDoors.printed ⟨#[60, 100, 105, 118, 62, 240, 159, 147, 129, 32, 60, 97, 32, 104, 114, 101, 102, 61, 34, 37, 115, 34, 62, 46, 46, 47, 60, 47, 97, 62, 60, 47, 100, 105, 118, 62, 10]⟩ 1).run Tryf.prog w = .ok [(0, 115, false)] w := by kernel_rfl
theorem fmtD : FmtStop.printed? ⟨#[60, 100, 105, 118, 62, 240, 159, 147, 129, 32, 60, 97, 32, 104, 114, 101, 102, 61, 34, 37, 115, 47, 34, 62, 37, 115, 47, 60, 47, 97, 62, 60, 47, 100, 105, 118, 62, 10]⟩ 2 = some [(0, 115, false), (1, 115, false)] := by kernel_rfl
theorem fmtDr (w : World) : (FmtDoors.printed ⟨#[60, 100, 105, 118, 62, 240, 159, 147, 129, 32, 60, 97, 32, 104, 114, 101, 102, 61, 34, 37, 115, 47, 34, 62, 37, 115, 47, 60, 47, 97, 62, 60, 47, 100, 105, 118, 62, 10]⟩ 2).run Tryf.prog w = .ok [(0, 115, false), (1, 115, false)] w := by kernel_rfl
theorem fmtF : FmtStop.printed? ⟨#[60, 100, 105, 118, 62, 240, 159, 147, 132, 32, 60, 97, 32, 104, 114, 101, 102, 61, 34, 37, 115, 34, 62, 37, 115, 60, 47, 97, 62, 60, 47, 100, 105, 118, 62, 10]⟩ 2 = some [(0, 115, false), (1, 115, false)] := by kernel_rfl
theorem fmtFr (w : World) : (FmtDoors.printed ⟨#[60, 100, 105, 118, 62, 240, 159, 147, 132, 32, 60, 97, 32, 104, 114, 101, 102, 61, 34, 37, 115, 34, 62, 37, 115, 60, 47, 97, 62, 60, 47, 100, 105, 118, 62, 10]⟩ 2).run Tryf.prog w = .ok [(0, 115, false), (1, 115, false)] w := by kernel_rfl
/-- What fmt is asked. -/
def askP (x : List UInt8) : List (List UInt8) := [fP, shape9, FmtStop.pack x]
def ask2 (f x y : List UInt8) : List (List UInt8) := [f, shape9, FmtStop.pack x, shape9, FmtStop.pack y]
/-- F answers these three as fmt's texts say. -/
structure Says (F : Interp) : Prop where
  p : ∀ x : ByteArray, x.size ≤ 16777216 → FmtStop.textOf (F "fmt.Sprintf" (askP x.data.toList) 0) = S (lineP x.data.toList)
  d : ∀ x y : ByteArray, x.size ≤ 16777216 → y.size ≤ 16777216 → FmtStop.textOf (F "fmt.Sprintf" (ask2 fD x.data.toList y.data.toList) 0) = S (lineD2 x.data.toList y.data.toList)
  f : ∀ x y : ByteArray, x.size ≤ 16777216 → y.size ≤ 16777216 → FmtStop.textOf (F "fmt.Sprintf" (ask2 fF x.data.toList y.data.toList) 0) = S (lineF2 x.data.toList y.data.toList)


theorem law9 : Keyed Tryf.prog 9 := string_keyed Tryf.underlying9
theorem below_of {w w' : World} (h : w.grownBy w' none) : Below w.heap.size w w' := ⟨h.os, h.tape, h.output, h.size, fun k hk => h.block k hk (by simp)⟩
theorem iter_kind {H : Type} {P : Program} {k : TypeId} {R : Value → Option (DataW H × List MemPlace)} {w : World} {b r n : Nat} {D : DataW H} {left : Lit → Bool} {cnt : Nat} (hr : w.ranges P k R b r n D left cnt) : ∀ c t fz, w.heap[r]? = some (.cells c t fz) → t = 9 := by
  obtain ⟨_, _, _, _, _, _, _, _, _, hit, _⟩ := hr
  intro c t fz e
  rw [hit] at e
  cases e
theorem app_bx {B n m : Nat} {w0 w w' : World} {l : List UInt8} {v : Value} {xs : List Value} (h : Bx B w0 l n w) (hown : w.ownsRow B 9 1 v m xs) (hg : w.grownBy w' v.ownBlock) : Bx B w0 l n w' := by
  cases hv : v.ownBlock with
  | none => rw [hv] at hg; exact h.up (below_of hg)
  | some g =>
    rw [hv] at hg
    obtain ⟨c, fz, hc⟩ := Lib.ownsRowF_kind (World.ownsRowF_of hown) g hv
    exact h.grown (hown.lt g hv).1 hg (fun c' t fz' e => by rw [hc] at e; cases e; rfl)
theorem made_in (w : World) (s : ByteArray) (hs : s.size ≤ maxLen) : InRow (w.drew.alloc (.cells (bytesRow s (grownCap w s.size 0 5)) 5 ((bytesRow s (grownCap w s.size 0 5)).size, (bytesRow s (grownCap w s.size 0 5)).size + 1))) (some ⟨w.heap.size, 0, none⟩) s.size (grownCap w s.size 0 5) (bc s.data.toList) := by
  have hge := grownCap_ge w s.size 0 5
  have hcm := grownCap_le_maxLen w s.size 0 5 hs
  refine .inr ⟨_, rfl, by omega, hcm, by rw [bc_length, ← Lib.size_eq], fun i u hu => ?_⟩
  have hi := (List.getElem?_eq_some_iff.1 hu).1
  rw [bc_length, ← Lib.size_eq] at hi
  have ha : (⟨w.heap.size, 0, none⟩ : Addr).add i = ⟨w.heap.size, i, none⟩ := by unfold Addr.add; split <;> simp_all
  rw [ha]
  refine (Lib.cell_of_heap (heap_alloc_new w.drew _) i).trans ?_
  unfold bytesRow
  rw [Array.getElem?_append_left (by simpa using hi)]
  unfold bc at hu
  simpa using hu
/-- What the listing returns: a row of bytes that holds l. -/
def PageEnd (l : List UInt8) (w : World) (e : Ending) (w' : World) : Prop := ∃ a n cap, e = .returned (.slice a n cap) ∧ n = l.length ∧ InRow w' a n cap (bc l) ∧ Below w.heap.size w w'
/-- The two maps. -/
structure Two (W : World) (b1 n1 b2 n2 : Nat) (D1 D2 : DataW Unit) (Q : List UInt8) : Prop where
  hz : Maps.size D1 + Maps.size D2 ≤ 65536
  hm1 : W.ownsMap Tryf.prog 9 (plainElem Tryf.prog 4) b1 n1 D1
  hm2 : W.ownsMap Tryf.prog 9 (plainElem Tryf.prog 4) b2 n2 D2
  c1 : ∀ e ∈ keysS D1, e.length + Q.length + 16 ≤ 1048576
  c2 : ∀ e ∈ keysS D2, e.length + Q.length + 16 ≤ 1048576
theorem own_zero {B g n cap : Nat} {w : World} {xs : List Value} (h : w.ownsRow B 9 1 (.slice (some ⟨g, 0, none⟩) n cap) n xs) : w.ownsRow B 9 1 (.slice (some ⟨g, 0, none⟩) 0 cap) 0 [] := by
  rcases h.2 with ⟨h1, _⟩ | ⟨g2, cap2, cur, hv, hbase, hb, h1, h2, h3, h4⟩
  · cases h1
  · cases hv
    exact ⟨rfl, .inr ⟨g, cap, cur, rfl, hbase, hb, Nat.zero_le _, h2, h3, by simp⟩⟩

set_option maxHeartbeats 8000000 in
set_option maxRecDepth 100000 in
theorem page_any (F : Interp) (q : ByteArray) (w : World) (hF : F.answers w.tape) (hS : Says F) (hq : q.size ≤ 4096) (b1 n1 b2 n2 : Nat) (D1 D2 : DataW Unit) (hM : Two w b1 n1 b2 n2 D1 D2 q.data.toList) : Calls Tryf.prog 13 #[.string q, .map (some b1), .map (some b2)] w (PageEnd (page q.data.toList (keysS D1) (keysS D2)) w) := by
  obtain ⟨i0, hi, hz0, hz1, hz2⟩ := info_parts info9
  have HI := Lib.hid (And.intro hi (And.intro hz0 (And.intro hz1 hz2)))
  clear hi hz0 hz1 hz2
  have HF := Lib.hid (And.intro hF hS)
  clear hF hS
  have hnew := Lib.hid (Lib.fresh_isBuilder 33 5 w)
  obtain ⟨Q, hQ⟩ : ∃ Q, Q = q.data.toList := ⟨_, rfl⟩
  rw [← hQ] at hM ⊢
  have HM := Lib.hid hM
  clear hM
  have hQl : Q.length = q.size := by rw [hQ, ← Lib.size_eq]
  obtain ⟨p, hp⟩ : ∃ p, p = S (47 :: Q) := ⟨_, rfl⟩
  obtain ⟨pd, hpd⟩ : ∃ pd, pd = S (if Q = [] then [47] else 47 :: Q ++ [47]) := ⟨_, rfl⟩
  have hps : p.size = q.size + 1 := by rw [hp, S_size, List.length_cons, hQl]
  have hpds : pd.size ≤ q.size + 2 := by
    rw [hpd, S_size]
    split
    · simp
    · simp; omega
  have HP := Lib.hid (And.intro hp (And.intro hpd hQl))
  have a1 : ∀ wx, (Op.stringOp .add ⟨#[47]⟩ q).run Tryf.prog wx = .ok (.string p) wx := fun wx => by
    rw [run_add_S _ _ (by show 1 + _ ≤ _; omega), hp, hQ]
    rfl
  have a2 : ∀ wx, (Op.stringOp .add p ⟨#[47]⟩).run Tryf.prog wx = .ok (.string (S (47 :: Q ++ [47]))) wx := fun wx => by
    rw [run_add_S _ _ (by show _ + 1 ≤ _; omega), hp, S_data]
  clear hp hpd hQ
  have hsum := Lib.hid (parts_sum Q)
  have e47 : (Q = [] → (p.toList == [47]) = true) ∧ (Q ≠ [] → (p.toList == [47]) = false) := by
    constructor
    · intro h0
      rw [HP.out.1, S_toList, h0]; rfl
    · intro h0
      rw [HP.out.1, S_toList]
      apply beq_eq_false_iff_ne.2
      intro e
      exact h0 (List.cons.inj e).2
  have E := Lib.hid e47
  clear e47
  go_enter Tryf.func13, Tryf.ntmps13
  go_upto_if 24 with fail
  go_cut [7] from 20 (fun s7 wx => s7 = .string pd ∧ wx = w)
  case first =>
    by_cases h0 : Q = []
    · have e1 := E.out.1 h0
      rw [e1]
      go_wp2_with fail
      go_meet
      refine ⟨?_, rfl⟩
      rw [HP.out.2.1, if_pos h0, HP.out.1, h0]
    · have e1 := E.out.2 h0
      rw [e1]
      go_wp2_with fail
      go_meet
      refine ⟨?_, rfl⟩
      rw [HP.out.2.1, if_neg h0]
      rfl
  case rest =>
    obtain ⟨rfl, rfl⟩ := hcut
    obtain ⟨W, rfl⟩ : ∃ W : World, W = wc := ⟨_, rfl⟩
    clear a1 a2
    have B0 : Hid (Bx W.heap.size W [] 0 (W.alloc (.cells #[.pointer none, .slice none 0 0] 33))) := Lib.hid ⟨hnew.out, (Below.refl _ _).alloc (Nat.le_refl _) _, Nat.le_refl _⟩
    go_wp2_with fail
    refine (write_x _ _ B0.out (Nat.le_of_ble_eq_true (by kernel_rfl))).mono ?_
    rintro e w1 ⟨rfl, hb1, -⟩
    have B1 := Lib.hid hb1
    clear hb1
    go_wp2_with fail
    refine (write_x _ _ B1.out (Nat.le_of_ble_eq_true (by kernel_rfl))).mono ?_
    rintro e w2 ⟨rfl, hb1, -⟩
    have B2 := Lib.hid hb1
    clear hb1
    go_wp2_with fail
    refine (write_x _ _ B2.out (Nat.le_of_ble_eq_true (by kernel_rfl))).mono ?_
    rintro e w3 ⟨rfl, hb1, -⟩
    have B3 := Lib.hid hb1
    clear hb1
    go_wp2_with fail
    refine (write_x _ _ B3.out (Nat.le_of_ble_eq_true (by kernel_rfl))).mono ?_
    rintro e w4 ⟨rfl, hb1, -⟩
    have B4 := Lib.hid hb1
    clear hb1
    go_wp2_with fail
    refine (write_x _ _ B4.out (Nat.le_of_ble_eq_true (by kernel_rfl))).mono ?_
    rintro e w5 ⟨rfl, hb1, -⟩
    have B5 := Lib.hid hb1
    clear hb1
    go_wp2_with fail
    refine (write_x _ _ B5.out (Nat.le_of_ble_eq_true (by kernel_rfl))).mono ?_
    rintro e w6 ⟨rfl, hb1, -⟩
    have B6 := Lib.hid hb1
    clear hb1
    go_wp2_with fail
    refine (write_x _ _ B6.out (Nat.le_of_ble_eq_true (by kernel_rfl))).mono ?_
    rintro e w7 ⟨rfl, hb1, -⟩
    have B7 := Lib.hid hb1
    clear hb1
    go_wp2_with fail
    refine (write_x _ _ B7.out (Nat.le_of_ble_eq_true (by kernel_rfl))).mono ?_
    rintro e w8 ⟨rfl, hb1, -⟩
    have B8 := Lib.hid hb1
    clear hb1
    go_wp2_with fail
    refine (write_x _ _ B8.out (Nat.le_of_ble_eq_true (by kernel_rfl))).mono ?_
    rintro e w9 ⟨rfl, hb1, -⟩
    have B9 := Lib.hid hb1
    clear hb1
    go_wp2_with fail
    refine (write_x _ _ B9.out (Nat.le_of_ble_eq_true (by kernel_rfl))).mono ?_
    rintro e w10 ⟨rfl, hb1, -⟩
    have B10 := Lib.hid hb1
    clear hb1
    go_wp2_with fail
    refine (write_x _ _ B10.out (Nat.le_of_ble_eq_true (by kernel_rfl))).mono ?_
    rintro e w11 ⟨rfl, hb1, -⟩
    have B11 := Lib.hid hb1
    clear hb1
    go_wp2_with fail
    refine (write_x _ _ B11.out (Nat.le_of_ble_eq_true (by kernel_rfl))).mono ?_
    rintro e w12 ⟨rfl, hb1, -⟩
    have B12 := Lib.hid hb1
    clear hb1
    go_wp2_with fail
    refine (write_x _ _ B12.out (Nat.le_of_ble_eq_true (by kernel_rfl))).mono ?_
    rintro e w13 ⟨rfl, hb1, -⟩
    have B13 := Lib.hid hb1
    clear hb1
    go_wp2_with fail
    refine (html_any pd _ (by omega)).mono ?_
    rintro e w14 ⟨rfl, hb1⟩
    have B14 := Lib.hid ((B13.out.to (m := 2048) rfl (Nat.le_of_ble_eq_true (by kernel_rfl))).up hb1)
    have hel := esc_length false pd.data.toList
    rw [← Lib.size_eq] at hel
    have hel2 : (S (esc false pd.data.toList)).size ≤ 24588 := by rw [S_size]; omega
    clear hb1 hel
    go_wp2_with fail
    refine (write_x _ _ B14.out (by omega)).mono ?_
    rintro e w15 ⟨rfl, hb1, -⟩
    have B15 := Lib.hid (hb1.to (m := 26700) rfl (by have := hb1.2.2; omega))
    clear hb1 hel2
    go_wp2_with fail
    refine (write_x _ _ B15.out (Nat.le_of_ble_eq_true (by kernel_rfl))).mono ?_
    rintro e w16 ⟨rfl, hb1, -⟩
    have B16 := Lib.hid hb1
    clear hb1
    go_wp2_with fail
    refine (write_x _ _ B16.out (Nat.le_of_ble_eq_true (by kernel_rfl))).mono ?_
    rintro e w17 ⟨rfl, hb1, -⟩
    have B17 := Lib.hid hb1
    clear hb1
    have B18 := Lib.hid (B17.out.to (l' := top Q) (m := 32768) (by rw [HP.out.2.1, S_data, S_data]; rfl) (top_le Q (by have := HP.out.2.2; omega)))
    clear B0 B1 B2 B3 B4 B5 B6 B7 B8 B9 B10 B11 B12 B13 B14 B15 B16 B17
    go_upto_if 47 with fail
    go_cut [9] from 46 (fun s9 wx => ∃ g cap, s9 = .slice (some ⟨g, 0, none⟩) (parts Q).length cap ∧ (parts Q).length ≤ cap ∧ SRow wx g (parts Q) ∧ Bx W.heap.size W (top Q) 32768 wx)
    case first =>
      by_cases h0 : Q = []
      · have e1 := E.out.1 h0
        rw [e1]
        have hpq : parts Q = [[]] := by unfold parts; rw [if_pos h0]
        have HQ := Lib.hid hpq
        clear hpq
        go_wp2_with fail
        go_meet
        rw [HQ.out]
        refine ⟨_, _, rfl, Nat.le_refl _, ⟨_, heap_alloc_new _ _, fun i x hx => ?_⟩, B18.out.up ((Below.refl _ _).alloc (Nat.le_refl _) _)⟩
        cases i with
        | zero =>
          have : ([] : List UInt8) = x := by simpa using hx
          subst this
          rfl
        | succ i => simp at hx
      · have e1 := E.out.2 h0
        rw [e1]
        have hpq : parts Q = Lib.Pa.els (47 :: Q) := by unfold parts; rw [if_neg h0]
        have hpp : p.data.toList = 47 :: Q := by rw [HP.out.1, S_data]
        have HQ := Lib.hid (And.intro hpq hpp)
        clear hpq hpp
        go_wp2_with fail
        refine (zzSplit_any p (by omega) _).mono ?_
        rintro e w18 ⟨g, cap, rfl, ho, hb⟩
        rw [HQ.out.2, ← HQ.out.1] at ho
        rw [HQ.out.2, ← HQ.out.1]
        obtain ⟨g', hg', _, hcap, hsr⟩ := srow_of ho (parts_pos Q)
        cases hg'
        have HS := Lib.hid (And.intro hcap (And.intro hsr (B18.out.up hb)))
        clear ho hb hcap hsr
        go_wp2_with fail
        go_meet
        exact ⟨_, _, rfl, HS.out.1, HS.out.2.1, HS.out.2.2⟩
    case rest =>
      obtain ⟨g, cap, rfl, hcap, hsr, hbx⟩ := hcut
      have R0 := Lib.hid (And.intro hsr hbx)
      clear hsr hbx B18
      obtain ⟨n, hn⟩ : ∃ n, n = (parts Q).length := ⟨_, rfl⟩
      rw [← hn] at hcap ⊢
      have HN := Lib.hid hn
      have hnp := parts_pos Q
      have hn2 : n ≤ 4098 := by have := hsum.out; have := HP.out.2.2; omega
      rw [← hn] at hnp
      clear hn
      go_upto_block 0 with fail
      go_cut [] from 51 (fun wx => Bx W.heap.size W (top Q ++ partsOut (parts Q) n) 268599296 wx)
      case first =>
        go_wp2_with fail
        go_loopw [53] (fun s53 wr => ∃ k : Nat, s53 = .int .i64 k ∧ k ≤ n ∧ SRow wr g (parts Q) ∧ Bx W.heap.size W (top Q ++ partsOut (parts Q) k) 268599296 wr) (fun s53 _ => n - (intOf s53).toNat)
        case atStart => exact ⟨0, rfl, Nat.zero_le _, R0.out.1, R0.out.2.to (by simp [partsOut]) (by have := R0.out.2.2.2; simp [partsOut]; omega)⟩
        case round =>
          obtain ⟨k, rfl, hk, hsr, hbx⟩ := hrel
          by_cases hlt : k < n
          · obtain ⟨x, hx⟩ : ∃ x, (parts Q)[k]? = some x := ⟨_, List.getElem?_eq_getElem (by have := HN.out; omega)⟩
            have c1 := hsr.cell hx
            have hxl := lens_get _ _ _ hx
            have hsz : (S x).size ≤ 4098 := by rw [S_size]; have := hsum.out; have := HP.out.2.2; omega
            have R1 := Lib.hid (And.intro hsr hbx)
            have hel := esc_length false x
            have HX := Lib.hid (And.intro hx hel)
            clear hsr hbx hx hel hxl
            by_cases hl : k + 1 < n
            · have t1 : (k : Int) + 1 < (n : Int) := by omega
              have t2 : (k : Int) + 1 ≤ (n : Int) := by omega
              have t3 : (k : Int) + 1 ≤ (cap : Int) := by omega
              have t4 : (0 : Int) ≤ (k : Int) + 1 := by omega
              go_wp2_with fail
              refine (write_x _ _ R1.out.2 (Nat.le_of_ble_eq_true (by kernel_rfl))).mono ?_
              rintro e w2 ⟨rfl, hb1, hk1⟩
              have R2 := Lib.hid (And.intro (R1.out.1.kept R1.out.2.1 hk1) hb1)
              clear hb1 hk1
              have hjl := join_take_le (parts Q) (k + 1)
              obtain ⟨J, hJ⟩ : ∃ J, J = S (Lib.join ((parts Q).take (k + 1)) [47]) := ⟨_, rfl⟩
              have hJs : J.size ≤ 4098 := by rw [hJ, S_size]; have := hsum.out; have := HP.out.2.2; omega
              have hja := fun wx hs => join_any (parts Q) g (k + 1) cap wx (by have := HN.out; omega) (by omega) hs (by have := hsum.out; have := HP.out.2.2; omega)
              have HJ := Lib.hid (And.intro hJ hja)
              rw [← hJ] at hja
              have HJ2 := Lib.hid hja
              clear hja hjl hJ
              go_wp2_with fail
              refine (HJ2.out _ R2.out.1).mono ?_
              rintro e w3 ⟨rfl, hb1⟩
              have R3 := Lib.hid (And.intro (R2.out.1.up hb1) (R2.out.2.up hb1))
              clear hb1
              have hel2 := esc_length true J.data.toList
              rw [← Lib.size_eq] at hel2
              have hAs : (S (esc true J.data.toList)).size ≤ 24588 := by rw [S_size]; omega
              clear hel2
              go_wp2_with fail
              refine (attr_any J _ (by omega)).mono ?_
              rintro e w4 ⟨rfl, hb1⟩
              have R4 := Lib.hid (And.intro (R3.out.1.up hb1) (R3.out.2.up hb1))
              clear hb1
              go_wp2_with fail
              refine (write_x _ _ R4.out.2 (by show _ + 9 + _ ≤ _; omega)).mono ?_
              rintro e w5 ⟨rfl, hb1, hk1⟩
              have R5 := Lib.hid (And.intro (R4.out.1.kept R4.out.2.1 hk1) hb1)
              clear hb1 hk1
              go_wp2_with fail
              refine (write_x _ _ R5.out.2 (by show _ + 9 + _ + 3 ≤ _; omega)).mono ?_
              rintro e w6 ⟨rfl, hb1, hk1⟩
              have R6 := Lib.hid (And.intro (R5.out.1.kept R5.out.2.1 hk1) hb1)
              clear hb1 hk1
              go_wp2_with fail
              refine (html_any (S x) _ (by omega)).mono ?_
              rintro e w7 ⟨rfl, hb1⟩
              have R7 := Lib.hid (And.intro (R6.out.1.up hb1) (R6.out.2.up hb1))
              clear hb1
              rw [S_data]
              have hEs : (S (esc false x)).size ≤ 24588 := by rw [S_size]; have := HX.out.2; rw [S_size] at hsz; omega
              go_wp2_with fail
              refine (write_x _ _ R7.out.2 (by show _ + 9 + _ + 3 + _ ≤ _; omega)).mono ?_
              rintro e w8 ⟨rfl, hb1, hk1⟩
              have R8 := Lib.hid (And.intro (R7.out.1.kept R7.out.2.1 hk1) hb1)
              clear hb1 hk1
              go_wp2_with fail
              refine (write_x _ _ R8.out.2 (by show _ + 9 + _ + 3 + _ + 1 ≤ _; omega)).mono ?_
              rintro e w9 ⟨rfl, hb1, hk1⟩
              have R9 := Lib.hid (And.intro (R8.out.1.kept R8.out.2.1 hk1) hb1)
              clear hb1 hk1
              go_wp2_with fail
              refine (write_x _ _ R9.out.2 (by show _ + 9 + _ + 3 + _ + 1 + 4 ≤ _; omega)).mono ?_
              rintro e w10 ⟨rfl, hb1, hk1⟩
              have R10 := Lib.hid (And.intro (R9.out.1.kept R9.out.2.1 hk1) hb1)
              clear hb1 hk1
              go_wp2_with fail
              refine ⟨⟨k + 1, by go_num, by omega, R10.out.1, R10.out.2.to ?_ ?_⟩, by simp [intOf]; omega⟩
              · rw [partsOut_succ]
                have hxx : (parts Q).getD k [] = x := by rw [List.getD_eq_getElem?_getD, HX.out.1]; rfl
                unfold partOut
                rw [if_pos (by rw [← HN.out]; exact hl), if_pos (by rw [← HN.out]; exact hl), hxx]
                simp only [S_data, HJ.out.1, List.append_assoc]
                rfl
              · rw [List.length_append]
                have h1 := top_le Q (by have := HP.out.2.2; omega)
                have h2 := partsOut_le (parts Q) (by have := hsum.out; have := HP.out.2.2; omega) (k + 1) (by rw [← HN.out]; omega)
                omega
            · have t1 : ¬ ((k : Int) + 1 < (n : Int)) := by omega
              go_wp2_with fail
              refine (html_any (S x) _ (by omega)).mono ?_
              rintro e w2 ⟨rfl, hb1⟩
              have R2 := Lib.hid (And.intro (R1.out.1.up hb1) (R1.out.2.up hb1))
              clear hb1
              rw [S_data]
              have hEs : (S (esc false x)).size ≤ 24588 := by rw [S_size]; have := HX.out.2; rw [S_size] at hsz; omega
              go_wp2_with fail
              refine (write_x _ _ R2.out.2 (by omega)).mono ?_
              rintro e w3 ⟨rfl, hb1, hk1⟩
              have R3 := Lib.hid (And.intro (R2.out.1.kept R2.out.2.1 hk1) hb1)
              clear hb1 hk1
              go_wp2_with fail
              refine (write_x _ _ R3.out.2 (by show _ + _ + 1 ≤ _; omega)).mono ?_
              rintro e w4 ⟨rfl, hb1, hk1⟩
              have R4 := Lib.hid (And.intro (R3.out.1.kept R3.out.2.1 hk1) hb1)
              clear hb1 hk1
              go_wp2_with fail
              refine ⟨⟨k + 1, by go_num, by omega, R4.out.1, R4.out.2.to ?_ ?_⟩, by simp [intOf]; omega⟩
              · rw [partsOut_succ]
                have hxx : (parts Q).getD k [] = x := by rw [List.getD_eq_getElem?_getD, HX.out.1]; rfl
                unfold partOut
                rw [if_neg (by rw [← HN.out]; exact hl), if_neg (by rw [← HN.out]; exact hl), hxx]
                simp only [S_data, List.append_assoc, List.nil_append, List.append_nil]
                rfl
              · rw [List.length_append]
                have h1 := top_le Q (by have := HP.out.2.2; omega)
                have h2 := partsOut_le (parts Q) (by have := hsum.out; have := HP.out.2.2; omega) (k + 1) (by rw [← HN.out]; omega)
                omega
          · go_wp2_with fail
            go_meet
            obtain rfl : k = n := by omega
            exact hbx
      case rest =>
        have R1 := Lib.hid hcut
        clear R0 hcut
        go_wp2_with fail
        refine (write_x _ _ R1.out (by decide)).mono ?_
        rintro e w1 ⟨rfl, hb1, -⟩
        have R2 := Lib.hid hb1
        clear hb1 R1
        go_upto_if 85 with fail
        go_cut [] from 84 (fun wx => Bx W.heap.size W (headL Q) 536870912 wx)
        case first =>
          by_cases h0 : Q = []
          · have e1 := E.out.1 h0
            rw [e1]
            go_wp2_with fail
            go_meet
            refine R2.out.to ?_ (headL_le Q (by have := HP.out.2.2; omega))
            unfold headL up
            rw [if_pos h0, List.append_nil, ← HN.out]
            rfl
          · have e1 := E.out.2 h0
            rw [e1]
            obtain ⟨pd2, hpd2⟩ : ∃ x, x = S (Lib.Pa.dir (47 :: Q)) := ⟨_, rfl⟩
            have hd2 : pd2.size ≤ 4098 := by rw [hpd2, S_size]; have := dir_le Q; have := HP.out.2.2; omega
            have hda := fun wx => dir_any p wx (by omega)
            rw [HP.out.1, S_data, ← hpd2, ← HP.out.1] at hda
            obtain ⟨pr, hpr⟩ : ∃ x, x = S (parent Q) := ⟨_, rfl⟩
            have hpr2 : pr.size ≤ 4099 := by rw [hpr, S_size]; have := parent_le Q; have := HP.out.2.2; omega
            have HD := Lib.hid (And.intro hpd2 (And.intro hpr hda))
            clear hpd2 hpr hda
            go_upto_if 89 with (go_at_call 19; refine (HD.out.2.2 _).mono ?_; rintro e w2 ⟨rfl, hb1⟩; have R3 := Lib.hid (R2.out.up hb1); clear hb1)
            go_cut [12] from 84 (fun s12 wx => s12 = .string pr ∧ Bx W.heap.size W (top Q ++ partsOut (parts Q) n ++ k19) 268599302 wx)
            case first =>
              by_cases h1 : Lib.Pa.dir (47 :: Q) = [47]
              · have e2 : (pd2.toList == [47]) = true := by rw [HD.out.1, S_toList, h1]; rfl
                rw [e2]
                go_wp2_with fail
                go_meet
                refine ⟨?_, R3.out.to rfl (by have := R3.out.2.2; exact this)⟩
                rw [HD.out.2.1, HD.out.1]
                unfold parent
                rw [if_pos h1, h1]
              · have e2 : (pd2.toList == [47]) = false := by
                  rw [HD.out.1, S_toList]
                  exact beq_eq_false_iff_ne.2 h1
                rw [e2]
                have a3 : ∀ wx, (Op.stringOp .add pd2 ⟨#[47]⟩).run Tryf.prog wx = .ok (.string pr) wx := fun wx => by
                  rw [run_add_S _ _ (by show _ + 1 ≤ _; omega), HD.out.1, HD.out.2.1, S_data]
                  unfold parent
                  rw [if_neg h1]
                go_wp2_with fail
                go_meet
                exact ⟨rfl, R3.out.to rfl (by have := R3.out.2.2; exact this)⟩
            case rest =>
              obtain ⟨rfl, hbx⟩ := hcut
              have R4 := Lib.hid hbx
              clear hbx R3
              go_wp2_with fail
              refine (attr_any pr _ (by omega)).mono ?_
              rintro e w3 ⟨rfl, hb1⟩
              have R5 := Lib.hid (R4.out.up hb1)
              have hel := esc_length true pr.data.toList
              rw [← Lib.size_eq] at hel
              obtain ⟨A, hA⟩ : ∃ A, A = S (esc true pr.data.toList) := ⟨_, rfl⟩
              have hAs : A.size ≤ 24594 := by rw [hA, S_size]; omega
              rw [← hA]
              have HA := Lib.hid hA
              clear hb1 hel hA
              have hF' := answers_open (show F.answers w3.tape by rw [R5.out.2.1.tape]; exact HF.out.1)
              have k1 := call20
              have k2 := guard
              have k3 := fmtP
              have k4 := fmtPr
              have k5 := op9_115
              go_wp2_with fail
              rw [show FmtStop.textOf (F "fmt.Sprintf" [[60, 100, 105, 118, 62, 240, 159, 147, 129, 32, 60, 97, 32, 104, 114, 101, 102, 61, 34, 37, 115, 34, 62, 46, 46, 47, 60, 47, 97, 62, 60, 47, 100, 105, 118, 62, 10], shape9, FmtStop.pack A.data.toList] 0) = S (lineP A.data.toList) from HF.out.2.p A (by omega)]
              clear hF' k1 k2 k3 k4 k5
              obtain ⟨T, hT⟩ : ∃ T, T = S (lineP A.data.toList) := ⟨_, rfl⟩
              have hTd : T.data.toList = up Q := by
                rw [hT, S_data, HA.out, S_data, HD.out.2.1, S_data]
                unfold up
                rw [if_neg h0]
              have hTs : T.size ≤ 32768 := by rw [Lib.size_eq, hTd]; exact up_le Q (by have := HP.out.2.2; omega)
              rw [← hT]
              have HT := Lib.hid hTd
              clear hT hTd
              refine (write_x _ _ (R5.out.up ((Below.refl _ _).alloc (Nat.le_refl _) _).drew) (by omega)).mono ?_
              rintro e w4 ⟨rfl, hb1, -⟩
              have R6 := Lib.hid hb1
              clear hb1
              go_wp2_with fail
              go_meet
              refine R6.out.to ?_ (headL_le Q (by have := HP.out.2.2; omega))
              rw [HT.out, HN.out]
              rfl
        case rest =>
          have R3 := Lib.hid hcut
          have hbs := hcut.lt
          clear R2 hcut
          have hml := HM.out.hz
          have hmx1 : W.ownsMap Tryf.prog 9 (plainElem Tryf.prog 4) b1 n1 D1 := HM.out.hm1
          have hm1 := hmx1.kept (grown_of R3.out.2.1) (by simp)
          have hm2 := HM.out.hm2.kept (grown_of R3.out.2.1) (by simp)
          have HMM := Lib.hid (And.intro hm1 hm2)
          clear hm1 hm2 hmx1
          go_upto_block 2 with (first
            | (at_len; refine wpList_len_own _ rfl _ 25 rfl 9 4 Tryf.underlying25 _ b1 n1 _ rfl HMM.out.1 ?_)
            | (at_len; refine wpList_len_own _ rfl _ 25 rfl 9 4 Tryf.underlying25 _ b2 n2 _ rfl HMM.out.2 ?_)
            | (at_make; refine wpList_make_own _ rfl _ _ 22 rfl W.heap.size 9 i0 (.string ⟨#[]⟩) 1 Tryf.underlying22 HI.out.1 HI.out.2.1 HI.out.2.2.1 _ _ _ (Maps.size D1 + Maps.size D2) rfl rfl (by simp) (by rw [HI.out.2.2.2]; omega) (by unfold maxLen; omega) (by omega) ?_; intro w1 hrow1 hg1)
            | (at_range; refine wpList_range_own _ rfl _ 25 rfl 9 4 law9 Tryf.underlying25 _ b1 n1 _ rfl (HMM.out.1.kept hg1 (by simp)) ?_; intro w0 hrg0 hg0 hs0))
          go_frame
          have hs1 := hg1.size
          obtain ⟨rc1, hrc1⟩ : ∃ r, r = w1.heap.size := ⟨_, rfl⟩
          rw [← hrc1] at hrg0 ⊢
          have hrw0 := hrow1.kept hg0 (Or.inr (by simp [Value.ownBlock]))
          have hbx0 := (R3.out.up (below_of hg1)).up (below_of hg0)
          have hrcB : rc1 ≥ W.heap.size := by omega
          clear hs0 hg0 hg1 hrow1 hrc1 hs1 R3 HMM hbs
          go_cut [13] from 106 (fun s13 wx => ∃ (g cap : Nat) (ss : List (List UInt8)), s13 = .slice (some ⟨g, 0, none⟩) ss.length cap ∧ wx.ownsRow W.heap.size 9 1 (.slice (some ⟨g, 0, none⟩) ss.length cap) ss.length (ss.map encStr) ∧ ss.Perm (strKeys D1) ∧ ss.length ≤ Maps.size D1 ∧ Bx W.heap.size W (headL Q) 536870912 wx)
          case first =>
            go_wp2_with fail
            go_loopw [13] (fun v wr => ∃ (left : Lit → Bool) (cnt : Nat) (ss : List (List UInt8)), wr.ranges Tryf.prog 9 (plainElem Tryf.prog 4) b1 rc1 n1 D1 left cnt ∧ ss.length + cnt ≤ Maps.size D1 ∧
                wr.ownsRow W.heap.size 9 1 v ss.length (ss.map encStr) ∧ v ≠ .slice none 0 0 ∧ Collected D1 left ss ∧ Bx W.heap.size W (headL Q) 536870912 wr ∧ rc1 ≥ W.heap.size)
              (fun _ wr => wr.rangeLeft b1 rc1)
            case atStart => exact ⟨_, _, [], hrg0, by simp, hrw0, by simp, Collected.start D1, hbx0, hrcB⟩
            case round =>
              obtain ⟨left, cnt, ss, hrg, hcs, hrow, hnn, hC, hbx, hrB⟩ := hrel
              have hbs := hbx.lt
              have hnx := hbx.2.1
              have HBX := Lib.hid hbx
              clear hbx
              go_wp2_with (first
                | (at_next; refine wpList_next_ranges _ rfl _ rfl 9 law9 (plainElem Tryf.prog 4) encStr (id : Value → Value) (fun key kl hk => by obtain ⟨x, hx, _⟩ := Maps.keyOf_str Tryf.underlying9 hk; exact ⟨x, hx⟩) (fun v y hv => ⟨v, rfl⟩) b1 rc1 n1 _ _ _ rfl hrg ?_ ?_))
              · intro hc0 hl0
                rcases hrow.2 with ⟨hnil, _⟩ | ⟨g, cap, cur, rfl, hbase, hb, h1, h2, h3, h4⟩
                · exact absurd hnil hnn
                have HE := Lib.hid (And.intro hrow (hC.perm (HM.out.hm1) law9 Tryf.underlying9 hl0))
                clear hrow hC h1 h2 h3 h4 hb
                go_wp2_with fail
                go_meet
                exact ⟨g, cap, ss, rfl, HE.out.1, HE.out.2, by omega, HBX.out⟩
              · intro x c kl yd yp w2 cnt2 hkey hlk hv hat hrg2 hlt hg2 hs2 hen
                obtain ⟨x', ex, rfl, _⟩ := Maps.keyOf_str Tryf.underlying9 hkey
                obtain rfl : x = x' := encStr_inj ex
                have hrow2 := hrow.kept hg2 (Or.inr (row_ne_iter hrow hrg).symm)
                have hbx2 := HBX.out.grown hrB hg2 (iter_kind hrg)
                have HBX2 := Lib.hid hbx2
                have hs3 := hbx2.lt
                clear hs2 hbx2
                go_wp2_with (first
                  | (at_builtin; refine wpList_append_own _ rfl _ _ 22 rfl W.heap.size 9 i0 (.string ⟨#[]⟩) 1 16 Tryf.underlying22 HI.out.1 HI.out.2.1 HI.out.2.2.1 HI.out.2.2.2 rfl (by decide) _ _ _ rfl (hrow2.alloc _) ⟨w2.heap.size, 0, none⟩ 1 1 [encStr x] rfl rfl (cell_one_new _ _ _) (by simp [Value.oneCell', encStr]) (by have := HM.out.hz; unfold maxLen; omega) (by have := HM.out.hz; omega) (by simp; omega) ?_; intro v' w3 hown' hg3 hnil3; go_frame))
                have hrg3 := (hrg2.alloc _).kept hg3 (row_ne_low hrow2 HM.out.hm1.lt) (row_ne_iter hrow2 hrg2)
                go_roundw
                case rel =>
                  refine ⟨_, cnt2, ss ++ [x], hrg3, by simp; omega, by simpa using hown', fun hv' => by have := (hnil3.1 hv').2; omega, hC.step hlk hat, ?_, hrB⟩
                  exact app_bx (HBX2.out.up ((Below.refl _ _).alloc (Nat.le_refl _) _)) (hrow2.alloc _) hg3
                case measure => rw [hrg3.left_eq, hrg.left_eq]; exact hlt
          case rest =>
            obtain ⟨g, cap, ss, rfl, hrow, hperm, hle, hbx⟩ := hcut
            have hks : ss.mergeSort (fun x y => decide (x ≤ y)) = keysS D1 := mergeSort_of_perm hperm
            obtain ⟨nc1, hnc⟩ : ∃ n, n = ss.length := ⟨_, rfl⟩
            have hnk : nc1 = (keysS D1).length := by rw [hnc, ← hks, List.length_mergeSort]
            rw [← hnc] at hle
            rcases hrow.2 with ⟨hnil, _⟩ | ⟨g2, cap2, cur, hv, hbase, hb, h1, h2, h3, h4⟩
            · cases hnil
            cases hv
            have hH : Holds encStr wc g 0 ss.toArray := holds_of_block hb (by simpa using h4)
            have hgl : g < wc.heap.size := (Array.getElem?_eq_some_iff.1 hb).1
            have hc := sorts_any g 0 cap ss wc hH hgl (by have := HM.out.hz; omega)
            have hend : ∀ nn os, (grow (putRow encStr (Sort.ahead wc nn) g 0 (ss.mergeSort fun x y => decide (x ≤ y)).toArray) os).ownsRow W.heap.size 9 1 (.slice (some ⟨g, 0, none⟩) ss.length cap) ss.length ((keysS D1).map encStr) ∧ Bx W.heap.size W (headL Q) 536870912 (grow (putRow encStr (Sort.ahead wc nn) g 0 (ss.mergeSort fun x y => decide (x ≤ y)).toArray) os) := by
              intro nn os
              refine ⟨?_, hbx.grown hbase (grownBy_sorted _) (fun c t fz e => by rw [hb] at e; cases e; rfl)⟩
              rw [← hks]
              exact ownsRow_sorted (by simp) hbase hb h1 h2 h3
            have HEND := Lib.hid (And.intro hc hend)
            have HNS := Lib.hid hnk
            rw [← hnc] at HEND ⊢
            have hnbc1 : nc1 ≤ 65536 := by have := HM.out.hz; omega
            have HLE := Lib.hid (And.intro hle hnc)
            clear hrow hperm hbx hks hb h1 h2 h3 h4 hH hgl hc hend hnk hbase hle hnc
            go_upto_block 4 with (go_at_call 21; refine HEND.out.1.mono ?_; rintro e w' ⟨rfl, nn, os, rfl⟩; have RS := Lib.hid (HEND.out.2 nn os); generalize hws : grow (putRow encStr (Sort.ahead wc nn) g 0 (ss.mergeSort fun x y => decide (x ≤ y)).toArray) os = ws at RS ⊢; clear hws HEND)
            have HBD := Lib.hid RS.out.2.2.2
            go_cut [] from 118 (fun wx => wx.ownsRow W.heap.size 9 1 (.slice (some ⟨g, 0, none⟩) nc1 cap) nc1 ((keysS D1).map encStr) ∧ Bx W.heap.size W (headL Q ++ (keysS D1).flatMap (lineD Q)) 1100048498688 wx)
            case first =>
              go_wp2_with fail
              go_loopw [118] (fun sk wr => ∃ k : Nat, sk = .int .i64 k ∧ k ≤ nc1 ∧ wr.ownsRow W.heap.size 9 1 (.slice (some ⟨g, 0, none⟩) nc1 cap) nc1 ((keysS D1).map encStr) ∧ Bx W.heap.size W (headL Q ++ ((keysS D1).take k).flatMap (lineD Q)) 1100048498688 wr) (fun sk _ => nc1 - (intOf sk).toNat)
              case atStart => exact ⟨0, rfl, Nat.zero_le _, RS.out.1, RS.out.2.to (by simp) (by have := RS.out.2.2.2; simp at this ⊢; omega)⟩
              case round =>
                obtain ⟨k, rfl, hk, hrow, hbx⟩ := hrel
                by_cases hlt : k < nc1
                · obtain ⟨x, hx⟩ : ∃ x, (keysS D1)[k]? = some x := ⟨_, List.getElem?_eq_getElem (by have := HNS.out; omega)⟩
                  have c1 : wr.cell? ⟨g, k, none⟩ = some (.string (S x)) := by
                    rw [hrow.cellAt k (by omega)]
                    simp [List.getElem?_map, hx, encStr, S]
                  have hxs := HM.out.c1 x (List.mem_of_getElem? hx)
                  have R1 := Lib.hid (And.intro hrow hbx)
                  have HX := Lib.hid hx
                  have hbs := hbx.lt
                  clear hrow hbx hx
                  obtain ⟨X, hX⟩ : ∃ X, X = S x := ⟨_, rfl⟩
                  rw [← hX] at c1
                  have hXs : X.size + q.size + 16 ≤ 1048576 := by rw [hX, S_size]; omega
                  obtain ⟨J, hJ⟩ : ∃ J, J = S (Lib.Pa.joinL [47 :: Q, x]) := ⟨_, rfl⟩
                  have hJs : J.size ≤ 1048576 := by rw [hJ, S_size]; have := joinL_le Q x; have := HP.out.2.2; omega
                  have hXd : X.data.toList = x := by rw [hX, S_data]
                  obtain ⟨A, hA⟩ : ∃ A, A = S (esc true J.data.toList) := ⟨_, rfl⟩
                  obtain ⟨E2, hE⟩ : ∃ E2, E2 = S (esc false X.data.toList) := ⟨_, rfl⟩
                  have hAs : A.size ≤ 6291456 := by rw [hA, S_size]; have := esc_length true J.data.toList; rw [← Lib.size_eq] at this; omega
                  have hEs : E2.size ≤ 6291456 := by rw [hE, S_size]; have := esc_length false X.data.toList; rw [← Lib.size_eq] at this; omega
                  have hpj := fun wx => pjoin_two p X wx (by omega)
                  rw [show S (Lib.Pa.joinL [p.data.toList, X.data.toList]) = J by rw [hJ, hXd, HP.out.1, S_data]] at hpj
                  have hat := fun wx => attr_any J wx hJs
                  rw [← hA] at hat
                  have hht := fun wx => html_any X wx (by omega)
                  rw [← hE] at hht
                  have HC := Lib.hid (And.intro hpj (And.intro hat hht))
                  have HV := Lib.hid (And.intro hA (And.intro hE (And.intro hJ (And.intro hXd hxs))))
                  clear hpj hat hht hA hE hJ hX hXd hxs
                  go_wp2_with fail
                  refine (HC.out.1 _).mono ?_
                  rintro e w1 ⟨rfl, hb1⟩
                  have R2 := Lib.hid (And.intro (own9_up R1.out.1 hb1) (R1.out.2.up hb1))
                  clear hb1
                  go_wp2_with fail
                  refine (HC.out.2.1 _).mono ?_
                  rintro e w2 ⟨rfl, hb1⟩
                  have R3 := Lib.hid (And.intro (own9_up R2.out.1 hb1) (R2.out.2.up hb1))
                  clear hb1
                  go_wp2_with fail
                  refine (HC.out.2.2 _).mono ?_
                  rintro e w3 ⟨rfl, hb1⟩
                  have R4 := Lib.hid (And.intro (own9_up R3.out.1 hb1) (R3.out.2.up hb1))
                  clear hb1
                  have hF' := answers_open (show F.answers w3.tape by rw [R4.out.2.2.1.tape]; exact HF.out.1)
                  have k1 := call20
                  have k2 := guard
                  have k3 := fmtD
                  have k4 := fmtDr
                  have k5 := op9_115
                  go_wp2_with fail
                  rw [show FmtStop.textOf (F "fmt.Sprintf" [[60, 100, 105, 118, 62, 240, 159, 147, 129, 32, 60, 97, 32, 104, 114, 101, 102, 61, 34, 37, 115, 47, 34, 62, 37, 115, 47, 60, 47, 97, 62, 60, 47, 100, 105, 118, 62, 10], shape9, FmtStop.pack A.data.toList, shape9, FmtStop.pack E2.data.toList] 0) = S (lineD2 A.data.toList E2.data.toList) from HF.out.2.d A E2 (by omega) (by omega)]
                  clear hF' k1 k2 k3 k4 k5
                  have hb1 : Below w3.heap.size w3 (w3.alloc (.cells #[.iface 9 (.string A), .iface 9 (.string E2)] 20)).drew := ((Below.refl _ _).alloc (Nat.le_refl _) _).drew
                  have R5 := Lib.hid (And.intro (own9_up R4.out.1 hb1) (R4.out.2.up hb1))
                  clear hb1
                  obtain ⟨T, hT⟩ : ∃ T, T = S (lineD2 A.data.toList E2.data.toList) := ⟨_, rfl⟩
                  have hTd : T.data.toList = lineD Q x := by
                    rw [hT, S_data, HV.out.1, HV.out.2.1, S_data, S_data, HV.out.2.2.1, S_data, HV.out.2.2.2.1]
                    rfl
                  have hTs : T.size ≤ 16777216 := by rw [Lib.size_eq, hTd]; exact lineD_le Q x (by have := HV.out.2.2.2.2; have := HP.out.2.2; omega)
                  rw [← hT]
                  have HT := Lib.hid hTd
                  clear hT hTd
                  refine (write_x _ _ R5.out.2 (by omega)).mono ?_
                  rintro e w5 ⟨rfl, hb1, hk1⟩
                  have R6 := Lib.hid (And.intro (own9_kept R5.out.1 R5.out.2.1 hk1) hb1)
                  clear hb1 hk1
                  go_wp2_with fail
                  refine ⟨⟨k + 1, by go_num, by omega, R6.out.1, R6.out.2.to ?_ ?_⟩, by simp [intOf]; omega⟩
                  · rw [List.take_add_one, HX.out, List.flatMap_append, HT.out, List.append_assoc]
                    simp
                  · rw [List.length_append]
                    have h1 := HBD.out
                    have h2 := flat_le (lineD Q) 16777216 ((keysS D1).take (k + 1)) (fun y hy => lineD_le Q y (by have := HM.out.c1 y (List.mem_of_mem_take hy); have := HP.out.2.2; omega))
                    rw [List.length_take] at h2
                    have h3 : min (k + 1) (keysS D1).length ≤ 65536 := by have := HNS.out; omega
                    have h4 := Nat.mul_le_mul_right 16777216 h3
                    omega
                · have HR := Lib.hid (And.intro hrow hbx)
                  clear hrow hbx
                  obtain rfl : k = nc1 := by omega
                  go_wp2_with fail
                  go_meet
                  refine ⟨HR.out.1, HR.out.2.to ?_ ?_⟩
                  · rw [List.take_of_length_le (by have := HNS.out; omega)]
                  · have := HR.out.2.2.2
                    rw [List.take_of_length_le (by have := HNS.out; omega)] at this
                    exact this
            case rest =>
              obtain ⟨hrow, hbx⟩ := hcut
              have hm2 := HM.out.hm2.kept (grown_of hbx.2.1) (by simp)
              have hrow1 := own_zero hrow
              have HH := Lib.hid (And.intro hbx (And.intro hrow1 hm2))
              have hbs := hbx.lt
              clear hrow hbx hm2 hrow1 RS HBD HLE HNS
              go_upto_block 6 with (first
                | (at_range; refine wpList_range_own _ rfl _ 25 rfl 9 4 law9 Tryf.underlying25 _ b2 n2 _ rfl HH.out.2.2 ?_; intro w0 hrg0 hg0 hs0))
              go_frame
              obtain ⟨rc2, hrc2⟩ : ∃ r, r = wc.heap.size := ⟨_, rfl⟩
              rw [← hrc2] at hrg0 ⊢
              have hrw0 := HH.out.2.1.kept hg0 (Or.inr (by simp [Value.ownBlock]))
              have hbx0 := HH.out.1.up (below_of hg0)
              have hrcB : rc2 ≥ W.heap.size := by omega
              clear hs0 hg0 hrc2 HH hbs
              go_cut [13] from 139 (fun s13 wx => ∃ (g cap : Nat) (ss : List (List UInt8)), s13 = .slice (some ⟨g, 0, none⟩) ss.length cap ∧ wx.ownsRow W.heap.size 9 1 (.slice (some ⟨g, 0, none⟩) ss.length cap) ss.length (ss.map encStr) ∧ ss.Perm (strKeys D2) ∧ ss.length ≤ Maps.size D2 ∧ Bx W.heap.size W (headL Q ++ (keysS D1).flatMap (lineD Q)) 1100048498688 wx)
              case first =>
                go_wp2_with fail
                go_loopw [13] (fun v wr => ∃ (left : Lit → Bool) (cnt : Nat) (ss : List (List UInt8)), wr.ranges Tryf.prog 9 (plainElem Tryf.prog 4) b2 rc2 n2 D2 left cnt ∧ ss.length + cnt ≤ Maps.size D2 ∧
                    wr.ownsRow W.heap.size 9 1 v ss.length (ss.map encStr) ∧ v ≠ .slice none 0 0 ∧ Collected D2 left ss ∧ Bx W.heap.size W (headL Q ++ (keysS D1).flatMap (lineD Q)) 1100048498688 wr ∧ rc2 ≥ W.heap.size)
                  (fun _ wr => wr.rangeLeft b2 rc2)
                case atStart => exact ⟨_, _, [], hrg0, by simp, hrw0, by simp, Collected.start D2, hbx0, hrcB⟩
                case round =>
                  obtain ⟨left, cnt, ss, hrg, hcs, hrow, hnn, hC, hbx, hrB⟩ := hrel
                  have hbs := hbx.lt
                  have hnx := hbx.2.1
                  have HBX := Lib.hid hbx
                  clear hbx
                  go_wp2_with (first
                    | (at_next; refine wpList_next_ranges _ rfl _ rfl 9 law9 (plainElem Tryf.prog 4) encStr (id : Value → Value) (fun key kl hk => by obtain ⟨x, hx, _⟩ := Maps.keyOf_str Tryf.underlying9 hk; exact ⟨x, hx⟩) (fun v y hv => ⟨v, rfl⟩) b2 rc2 n2 _ _ _ rfl hrg ?_ ?_))
                  · intro hc0 hl0
                    rcases hrow.2 with ⟨hnil, _⟩ | ⟨g, cap, cur, rfl, hbase, hb, h1, h2, h3, h4⟩
                    · exact absurd hnil hnn
                    have HE := Lib.hid (And.intro hrow (hC.perm (HM.out.hm2) law9 Tryf.underlying9 hl0))
                    clear hrow hC h1 h2 h3 h4 hb
                    go_wp2_with fail
                    go_meet
                    exact ⟨g, cap, ss, rfl, HE.out.1, HE.out.2, by omega, HBX.out⟩
                  · intro x c kl yd yp w2 cnt2 hkey hlk hv hat hrg2 hlt hg2 hs2 hen
                    obtain ⟨x', ex, rfl, _⟩ := Maps.keyOf_str Tryf.underlying9 hkey
                    obtain rfl : x = x' := encStr_inj ex
                    have hrow2 := hrow.kept hg2 (Or.inr (row_ne_iter hrow hrg).symm)
                    have hbx2 := HBX.out.grown hrB hg2 (iter_kind hrg)
                    have HBX2 := Lib.hid hbx2
                    have hs3 := hbx2.lt
                    clear hs2 hbx2
                    go_wp2_with (first
                      | (at_builtin; refine wpList_append_own _ rfl _ _ 22 rfl W.heap.size 9 i0 (.string ⟨#[]⟩) 1 16 Tryf.underlying22 HI.out.1 HI.out.2.1 HI.out.2.2.1 HI.out.2.2.2 rfl (by decide) _ _ _ rfl (hrow2.alloc _) ⟨w2.heap.size, 0, none⟩ 1 1 [encStr x] rfl rfl (cell_one_new _ _ _) (by simp [Value.oneCell', encStr]) (by have := HM.out.hz; unfold maxLen; omega) (by have := HM.out.hz; omega) (by simp; omega) ?_; intro v' w3 hown' hg3 hnil3; go_frame))
                    have hrg3 := (hrg2.alloc _).kept hg3 (row_ne_low hrow2 HM.out.hm2.lt) (row_ne_iter hrow2 hrg2)
                    go_roundw
                    case rel =>
                      refine ⟨_, cnt2, ss ++ [x], hrg3, by simp; omega, by simpa using hown', fun hv' => by have := (hnil3.1 hv').2; omega, hC.step hlk hat, ?_, hrB⟩
                      exact app_bx (HBX2.out.up ((Below.refl _ _).alloc (Nat.le_refl _) _)) (hrow2.alloc _) hg3
                    case measure => rw [hrg3.left_eq, hrg.left_eq]; exact hlt
              case rest =>
                obtain ⟨g, cap, ss, rfl, hrow, hperm, hle, hbx⟩ := hcut
                have hks : ss.mergeSort (fun x y => decide (x ≤ y)) = keysS D2 := mergeSort_of_perm hperm
                obtain ⟨nc2, hnc⟩ : ∃ n, n = ss.length := ⟨_, rfl⟩
                have hnk : nc2 = (keysS D2).length := by rw [hnc, ← hks, List.length_mergeSort]
                rw [← hnc] at hle
                rcases hrow.2 with ⟨hnil, _⟩ | ⟨g2, cap2, cur, hv, hbase, hb, h1, h2, h3, h4⟩
                · cases hnil
                cases hv
                have hH : Holds encStr wc g 0 ss.toArray := holds_of_block hb (by simpa using h4)
                have hgl : g < wc.heap.size := (Array.getElem?_eq_some_iff.1 hb).1
                have hc := sorts_any g 0 cap ss wc hH hgl (by have := HM.out.hz; omega)
                have hend : ∀ nn os, (grow (putRow encStr (Sort.ahead wc nn) g 0 (ss.mergeSort fun x y => decide (x ≤ y)).toArray) os).ownsRow W.heap.size 9 1 (.slice (some ⟨g, 0, none⟩) ss.length cap) ss.length ((keysS D2).map encStr) ∧ Bx W.heap.size W (headL Q ++ (keysS D1).flatMap (lineD Q)) 1100048498688 (grow (putRow encStr (Sort.ahead wc nn) g 0 (ss.mergeSort fun x y => decide (x ≤ y)).toArray) os) := by
                  intro nn os
                  refine ⟨?_, hbx.grown hbase (grownBy_sorted _) (fun c t fz e => by rw [hb] at e; cases e; rfl)⟩
                  rw [← hks]
                  exact ownsRow_sorted (by simp) hbase hb h1 h2 h3
                have HEND := Lib.hid (And.intro hc hend)
                have HNS := Lib.hid hnk
                rw [← hnc] at HEND ⊢
                have hnbc2 : nc2 ≤ 65536 := by have := HM.out.hz; omega
                have HLE := Lib.hid (And.intro hle hnc)
                clear hrow hperm hbx hks hb h1 h2 h3 h4 hH hgl hc hend hnk hbase hle hnc
                go_upto_block 8 with (go_at_call 21; refine HEND.out.1.mono ?_; rintro e w' ⟨rfl, nn, os, rfl⟩; have RS := Lib.hid (HEND.out.2 nn os); generalize hws : grow (putRow encStr (Sort.ahead wc nn) g 0 (ss.mergeSort fun x y => decide (x ≤ y)).toArray) os = ws at RS ⊢; clear hws HEND)
                have HBD := Lib.hid RS.out.2.2.2
                go_cut [] from 151 (fun wx => wx.ownsRow W.heap.size 9 1 (.slice (some ⟨g, 0, none⟩) nc2 cap) nc2 ((keysS D2).map encStr) ∧ Bx W.heap.size W (headL Q ++ (keysS D1).flatMap (lineD Q) ++ (keysS D2).flatMap (lineF Q)) 2199560126464 wx)
                case first =>
                  go_wp2_with fail
                  go_loopw [151] (fun sk wr => ∃ k : Nat, sk = .int .i64 k ∧ k ≤ nc2 ∧ wr.ownsRow W.heap.size 9 1 (.slice (some ⟨g, 0, none⟩) nc2 cap) nc2 ((keysS D2).map encStr) ∧ Bx W.heap.size W (headL Q ++ (keysS D1).flatMap (lineD Q) ++ ((keysS D2).take k).flatMap (lineF Q)) 2199560126464 wr) (fun sk _ => nc2 - (intOf sk).toNat)
                  case atStart => exact ⟨0, rfl, Nat.zero_le _, RS.out.1, RS.out.2.to (by simp) (by have := RS.out.2.2.2; simp at this ⊢; omega)⟩
                  case round =>
                    obtain ⟨k, rfl, hk, hrow, hbx⟩ := hrel
                    by_cases hlt : k < nc2
                    · obtain ⟨x, hx⟩ : ∃ x, (keysS D2)[k]? = some x := ⟨_, List.getElem?_eq_getElem (by have := HNS.out; omega)⟩
                      have c1 : wr.cell? ⟨g, k, none⟩ = some (.string (S x)) := by
                        rw [hrow.cellAt k (by omega)]
                        simp [List.getElem?_map, hx, encStr, S]
                      have hxs := HM.out.c2 x (List.mem_of_getElem? hx)
                      have R1 := Lib.hid (And.intro hrow hbx)
                      have HX := Lib.hid hx
                      have hbs := hbx.lt
                      clear hrow hbx hx
                      obtain ⟨X, hX⟩ : ∃ X, X = S x := ⟨_, rfl⟩
                      rw [← hX] at c1
                      have hXs : X.size + q.size + 16 ≤ 1048576 := by rw [hX, S_size]; omega
                      obtain ⟨J, hJ⟩ : ∃ J, J = S (Lib.Pa.joinL [47 :: Q, x]) := ⟨_, rfl⟩
                      have hJs : J.size ≤ 1048576 := by rw [hJ, S_size]; have := joinL_le Q x; have := HP.out.2.2; omega
                      have hXd : X.data.toList = x := by rw [hX, S_data]
                      obtain ⟨A, hA⟩ : ∃ A, A = S (esc true J.data.toList) := ⟨_, rfl⟩
                      obtain ⟨E2, hE⟩ : ∃ E2, E2 = S (esc false X.data.toList) := ⟨_, rfl⟩
                      have hAs : A.size ≤ 6291456 := by rw [hA, S_size]; have := esc_length true J.data.toList; rw [← Lib.size_eq] at this; omega
                      have hEs : E2.size ≤ 6291456 := by rw [hE, S_size]; have := esc_length false X.data.toList; rw [← Lib.size_eq] at this; omega
                      have hpj := fun wx => pjoin_two p X wx (by omega)
                      rw [show S (Lib.Pa.joinL [p.data.toList, X.data.toList]) = J by rw [hJ, hXd, HP.out.1, S_data]] at hpj
                      have hat := fun wx => attr_any J wx hJs
                      rw [← hA] at hat
                      have hht := fun wx => html_any X wx (by omega)
                      rw [← hE] at hht
                      have HC := Lib.hid (And.intro hpj (And.intro hat hht))
                      have HV := Lib.hid (And.intro hA (And.intro hE (And.intro hJ (And.intro hXd hxs))))
                      clear hpj hat hht hA hE hJ hX hXd hxs
                      go_wp2_with fail
                      refine (HC.out.1 _).mono ?_
                      rintro e w1 ⟨rfl, hb1⟩
                      have R2 := Lib.hid (And.intro (own9_up R1.out.1 hb1) (R1.out.2.up hb1))
                      clear hb1
                      go_wp2_with fail
                      refine (HC.out.2.1 _).mono ?_
                      rintro e w2 ⟨rfl, hb1⟩
                      have R3 := Lib.hid (And.intro (own9_up R2.out.1 hb1) (R2.out.2.up hb1))
                      clear hb1
                      go_wp2_with fail
                      refine (HC.out.2.2 _).mono ?_
                      rintro e w3 ⟨rfl, hb1⟩
                      have R4 := Lib.hid (And.intro (own9_up R3.out.1 hb1) (R3.out.2.up hb1))
                      clear hb1
                      have hF' := answers_open (show F.answers w3.tape by rw [R4.out.2.2.1.tape]; exact HF.out.1)
                      have k1 := call20
                      have k2 := guard
                      have k3 := fmtF
                      have k4 := fmtFr
                      have k5 := op9_115
                      go_wp2_with fail
                      rw [show FmtStop.textOf (F "fmt.Sprintf" [[60, 100, 105, 118, 62, 240, 159, 147, 132, 32, 60, 97, 32, 104, 114, 101, 102, 61, 34, 37, 115, 34, 62, 37, 115, 60, 47, 97, 62, 60, 47, 100, 105, 118, 62, 10], shape9, FmtStop.pack A.data.toList, shape9, FmtStop.pack E2.data.toList] 0) = S (lineF2 A.data.toList E2.data.toList) from HF.out.2.f A E2 (by omega) (by omega)]
                      clear hF' k1 k2 k3 k4 k5
                      have hb1 : Below w3.heap.size w3 (w3.alloc (.cells #[.iface 9 (.string A), .iface 9 (.string E2)] 20)).drew := ((Below.refl _ _).alloc (Nat.le_refl _) _).drew
                      have R5 := Lib.hid (And.intro (own9_up R4.out.1 hb1) (R4.out.2.up hb1))
                      clear hb1
                      obtain ⟨T, hT⟩ : ∃ T, T = S (lineF2 A.data.toList E2.data.toList) := ⟨_, rfl⟩
                      have hTd : T.data.toList = lineF Q x := by
                        rw [hT, S_data, HV.out.1, HV.out.2.1, S_data, S_data, HV.out.2.2.1, S_data, HV.out.2.2.2.1]
                        rfl
                      have hTs : T.size ≤ 16777216 := by rw [Lib.size_eq, hTd]; exact lineF_le Q x (by have := HV.out.2.2.2.2; have := HP.out.2.2; omega)
                      rw [← hT]
                      have HT := Lib.hid hTd
                      clear hT hTd
                      refine (write_x _ _ R5.out.2 (by omega)).mono ?_
                      rintro e w5 ⟨rfl, hb1, hk1⟩
                      have R6 := Lib.hid (And.intro (own9_kept R5.out.1 R5.out.2.1 hk1) hb1)
                      clear hb1 hk1
                      go_wp2_with fail
                      refine ⟨⟨k + 1, by go_num, by omega, R6.out.1, R6.out.2.to ?_ ?_⟩, by simp [intOf]; omega⟩
                      · rw [List.take_add_one, HX.out, List.flatMap_append, HT.out, List.append_assoc]
                        simp
                      · rw [List.length_append]
                        have h1 := HBD.out
                        have h2 := flat_le (lineF Q) 16777216 ((keysS D2).take (k + 1)) (fun y hy => lineF_le Q y (by have := HM.out.c2 y (List.mem_of_mem_take hy); have := HP.out.2.2; omega))
                        rw [List.length_take] at h2
                        have h3 : min (k + 1) (keysS D2).length ≤ 65536 := by have := HNS.out; omega
                        have h4 := Nat.mul_le_mul_right 16777216 h3
                        omega
                    · have HR := Lib.hid (And.intro hrow hbx)
                      clear hrow hbx
                      obtain rfl : k = nc2 := by omega
                      go_wp2_with fail
                      go_meet
                      refine ⟨HR.out.1, HR.out.2.to ?_ ?_⟩
                      · rw [List.take_of_length_le (by have := HNS.out; omega)]
                      · have := HR.out.2.2.2
                        rw [List.take_of_length_le (by have := HNS.out; omega)] at this
                        exact this
                case rest =>
                  obtain ⟨hrow, hbx⟩ := hcut
                  have HH := Lib.hid hbx
                  have hbs := hbx.lt
                  clear hrow hbx RS HBD HLE HNS
                  go_wp2_with fail
                  refine (bstr_any _ _ _ _ HH.out.1 (by omega)).mono ?_
                  rintro e wz ⟨rfl, hbz⟩
                  obtain ⟨T, hT⟩ : ∃ T, T = S (headL Q ++ (keysS D1).flatMap (lineD Q) ++ (keysS D2).flatMap (lineF Q)) := ⟨_, rfl⟩
                  have hTd : T.data.toList = page Q (keysS D1) (keysS D2) := by rw [hT, S_data]; rfl
                  have hTs : T.size ≤ maxLen := by
                    have := HH.out.2.2
                    rw [hT, S_size]
                    unfold maxLen
                    omega
                  rw [← hT]
                  have hcw := run_bytes_of_string (P := Tryf.prog) wz 9 26 5 T Tryf.underlying9 Tryf.underlying26 Tryf.underlying5
                  have hie := made_in wz T hTs
                  have hb4 := (HH.out.2.1.trans hbz).trans ((BufM.made wz 5 T hTs).below.mono (by have := hbz.size; omega))
                  rw [hTd] at hie
                  have hTl : T.size = (page Q (keysS D1) (keysS D2)).length := by rw [← hTd, ← Lib.size_eq]
                  obtain ⟨w4, hw4⟩ : ∃ w4, wz.drew.alloc (.cells (bytesRow T (grownCap wz T.size 0 5)) 5 ((bytesRow T (grownCap wz T.size 0 5)).size, (bytesRow T (grownCap wz T.size 0 5)).size + 1)) = w4 := ⟨_, rfl⟩
                  rw [hw4] at hcw hie hb4
                  obtain ⟨ae, hae⟩ : ∃ ae, (some ⟨wz.heap.size, 0, none⟩ : Option Addr) = ae := ⟨_, rfl⟩
                  obtain ⟨ce, hce⟩ : ∃ ce, grownCap wz T.size 0 5 = ce := ⟨_, rfl⟩
                  obtain ⟨le, hle⟩ : ∃ le, (page Q (keysS D1) (keysS D2)).length = le := ⟨_, rfl⟩
                  rw [hae, hce, hTl, hle] at hcw
                  rw [hae, hce, hTl, hle] at hie
                  have HT := Lib.hid (And.intro hie (And.intro hb4 hle))
                  clear hie hb4 hbz hTd hTs hTl hT HH hw4 hae hce hle
                  go_wp2_with fail
                  go_ret
                  exact ⟨ae, le, ce, rfl, HT.out.2.2.symm, HT.out.1, HT.out.2.1⟩

end Go.Proofs.YtpjpdeecpobmlaaFmt
