/-
  The walk of the law 'a matrix of numbers comes out in the fewest arguments'; conditions: the arguments' sizes.
-/
import Derived.Test.YtjanppdeddfehaaFmtMng
import Derived.Test.YtjanppdeddfehaaFmtEq6
namespace Go.Proofs.YtjanppdeddfehaaFmt
open Go.RowKit

def Ans (w : World) (e : Ending) (w' : World) : Prop := ∃ b : Bool, e = .returned (.bool b) ∧ w = w'
set_option maxHeartbeats 4000000 in
set_option maxRecDepth 100000 in
theorem bytes_any (c ws : Int) (a1 a2 a3 a4 a5 a6 : ByteArray) (w : World) (h1 : a1.size ≤ maxLen) (h2 : a2.size ≤ maxLen) (h3 : a3.size ≤ maxLen) (h4 : a4.size ≤ maxLen) (h5 : a5.size ≤ maxLen) (h6 : a6.size ≤ maxLen) :
    Calls Tryf.prog 4 #[.int .u8 c, .string a1, .string a2, .string a3, .string a4, .string a5, .string a6, .int .u8 ws] w (Ans w) := by
  unfold maxLen at h1 h2 h3 h4 h5 h6
  go_enter Tryf.func4, Tryf.ntmps4
  go_wp2_with fail
  all_goals (go_ret; exact ⟨_, rfl, rfl⟩)

theorem MRes.ret {w : World} {B tb : Nat} {nm a b c d e f : ByteArray} {ws : Int} {en : Ending} {w' : World} (h : MRes w B tb nm a b c d e f ws en w') : en = .returned (.slice (some ⟨tb, 0, none⟩) 1 1) := by
  unfold MRes at h
  split at h
  · split at h
    · exact h.1
    · split at h
      · exact h.1
      · split at h
        · exact h.1
        · exact h.1
  · exact h.1
theorem MEnd.back {w w1 : World} {B tb n : Nat} {text : ByteArray} {ws : Int} {K : Nat → Tk} {en : Ending} {w' : World} (h : MEnd w1 B tb text n ws K en w') (hb : Below B w w1) : MEnd w B tb text n ws K en w' := ⟨h.1, h.2.1, hb.trans h.2.2⟩
theorem MRes.back {w w1 : World} {B tb : Nat} {nm a b c d e f : ByteArray} {ws : Int} {en : Ending} {w' : World} (h : MRes w1 B tb nm a b c d e f ws en w') (hb : Below B w w1) : MRes w B tb nm a b c d e f ws en w' := by
  unfold MRes at h ⊢
  split at h
  · rename_i q
    rw [if_pos q]
    split at h
    · rename_i q
      rw [if_pos q]
      exact h.back hb
    · rename_i q
      rw [if_neg q]
      split at h
      · rename_i q
        rw [if_pos q]
        exact h.back hb
      · rename_i q
        rw [if_neg q]
        split at h
        · rename_i q
          rw [if_pos q]
          exact h.back hb
        · rename_i q
          rw [if_neg q]
          exact h.back hb
  · rename_i q
    rw [if_neg q]
    exact h.back hb
set_option maxHeartbeats 4000000 in
set_option maxRecDepth 100000 in
theorem shim_any (nm a b c d e f : ByteArray) (ws : Int) (tb bx cb : Nat) (w : World) (hn : IsName nm) (h : Fn w tb bx cb nm (kid a b c d e f ws)) (hw0 : 0 ≤ ws) (hw1 : ws ≤ 255) (B : Nat) (hB : B ≤ tb ∧ B ≤ bx ∧ B ≤ cb ∧ B ≤ w.heap.size) :
    Calls Tryf.prog 6 #[.slice (some ⟨tb, 0, none⟩) 1 1] w (MRes w B tb nm a b c d e f ws) := by
  have hm := fun (o : Obj) => mangle_any nm a b c d e f ws ⟨w.heap.size, 0, none⟩ tb bx cb (w.alloc o) hn (h.up ((Below.refl _ _).alloc (Nat.le_refl _) o)) hw0 hw1 B ⟨hB.1, hB.2.1, hB.2.2.1, by simp; omega⟩
  have HM := Lib.hid hm
  have HB := Lib.hid hB
  clear hm h hw0 hw1 hB hn
  go_enter Tryf.func6, Tryf.ntmps6
  go_wp2_with fail
  refine (HM.out _).mono ?_
  rintro en w' h
  obtain rfl := h.ret
  have HR := Lib.hid (h.back ((Below.refl B w).alloc HB.out.2.2.2 _))
  clear h
  go_wp2_with fail
  go_ret
  exact HR.out

theorem of_list {s : ByteArray} {l : List UInt8} (h : (s.toList == l) = true) : s = ⟨l.toArray⟩ := by
  have h1 : s.toList = l := by simpa using h
  rw [Lib.toList_data] at h1
  cases s with
  | mk d => rw [← h1]
theorem eq_list {s t : ByteArray} (h : (s.toList == t.toList) = true) : s = t := by
  have h1 : s.toList = t.toList := by simpa using h
  rw [Lib.toList_data, Lib.toList_data] at h1
  cases s with
  | mk d => cases t with
    | mk e =>
      have : d = e := Array.toList_inj.1 h1
      rw [this]
theorem name_not {nm : ByteArray} (h : IsName nm) : (nm.toList == [115, 99, 97, 108, 101]) = false ∧ (nm.toList == [115, 99, 97, 108, 101, 88]) = false ∧ (nm.toList == [115, 99, 97, 108, 101, 89]) = false := by
  rcases h with rfl | rfl | rfl <;> (rw [Lib.toList_data]; decide)

theorem diagZ : diag ⟨#[48]⟩ ⟨#[48]⟩ ⟨#[48]⟩ ⟨#[48]⟩ = true := by
  unfold diag
  simp only [Lib.toList_data]
  decide
set_option maxHeartbeats 8000000 in
set_option maxRecDepth 100000 in
theorem walk_six (a0 : Int) (a1 a2 a3 a4 a5 a6 : ByteArray) (a7 : Int) (w : World) (w0 : 0 ≤ a0 ∧ a0 ≤ 255) (w1 : a1.size ≤ maxLen) (w2 : a2.size ≤ maxLen) (w3 : a3.size ≤ maxLen) (w4 : a4.size ≤ maxLen) (w5 : a5.size ≤ maxLen) (w6 : a6.size ≤ maxLen) (w7 : 0 ≤ a7 ∧ a7 ≤ 255) (zb zc ze zf : Bool) (hzb : (a2.toList == [48]) = zb) (hzc : (a3.toList == [48]) = zc) (hze : (a5.toList == [48]) = ze) (hzf : (a6.toList == [48]) = zf) (hz : (zb && (zc && (ze && zf))) = false) :
    Calls Tryf.prog 3 #[.int .u8 a0, .string a1, .string a2, .string a3, .string a4, .string a5, .string a6, .int .u8 a7] w fun e w' => e = .returned (.bool true) ∧ Below w.heap.size w w' := by
  have zsz : ∀ {q : UInt8}, (⟨#[q]⟩ : ByteArray).size ≤ maxLen := fun {q} => by show 1 ≤ maxLen; unfold maxLen; omega
  have HW := Lib.hid (And.intro w0 w7)
  have HG := Lib.hid (bytes_any a0 a7 a1 a2 a3 a4 a5 a6 w w1 w2 w3 w4 w5 w6)
  have heq6 := fun wx => eq6 a1 a2 a3 a4 a5 a6 w1 w2 w3 w4 w5 w6 wx
  have HE6 := Lib.hid heq6
  have hm0 := fun (w2 : World) (B tb : Nat) (nm : ByteArray) => show MRes w2 B tb nm a1 a2 a3 a4 a5 a6 a7 = MEnd w2 B tb nm 11 a7 (kid a1 a2 a3 a4 a5 a6 a7) from by
    funext en w'
    unfold MRes
    rw [if_neg (by unfold diag; rw [hzb, hzc, hze, hzf, hz]; decide)]
  have HM0 := Lib.hid hm0
  unfold maxLen at w1 w2 w3 w4 w5 w6
  have HZ := Lib.hid (And.intro hzb (And.intro hzc (And.intro hze (And.intro hzf hz))))
  clear hzb hzc hze hzf hz
  clear w0 w7 zsz heq6 hm0
  go_enter Tryf.func3, Tryf.ntmps3
  go_wp2_with fail
  refine HG.out.mono ?_
  rintro en w' ⟨bb, rfl, rfl⟩
  cases bb
  · go_wp2_with fail
    go_ret
    exact ⟨rfl, Below.refl _ _⟩
  by_cases hs : a1.size ≤ 65536 ∧ a2.size ≤ 65536 ∧ a3.size ≤ 65536 ∧ a4.size ≤ 65536 ∧ a5.size ≤ 65536 ∧ a6.size ≤ 65536
  case neg =>
    go_wp2_with fail
    all_goals
      go_ret
      exact ⟨rfl, Below.refl _ _⟩
  case pos =>
    obtain ⟨s1, s2, s3, s4, s5, s6⟩ := hs
    go_wp2_with fail
    refine (name_any a0 HW.out.1.1 HW.out.1.2 w).mono ?_
    rintro en w' ⟨nm, rfl, hnm, rfl⟩
    have HN := Lib.hid hnm
    clear hnm w1 s1 w2 s2 w3 s3 w4 s4 w5 s5 w6 s6
    go_wp2_with fail
    obtain ⟨W, hW⟩ : ∃ W, w.alloc (Obj.cells #[Value.string a1, Value.string a2, Value.string a3, Value.string a4, Value.string a5, Value.string a6] 25) = W := ⟨_, rfl⟩
    rw [hW]
    have hbW : Below w.heap.size w W := by rw [← hW]; exact (Below.refl _ _).alloc (Nat.le_refl _) _
    have hv : W.heap[w.heap.size]? = some (.cells #[.string a1, .string a2, .string a3, .string a4, .string a5, .string a6] 25 (0, 0)) := by rw [← hW]; exact heap_alloc_new w _
    have HVW := Lib.hid (And.intro hbW hv)
    clear hW hbW hv
    refine (buildfn_any nm a1 a2 a3 a4 a5 a6 w.heap.size a7 W ((Lib.cell_of_heap HVW.out.2 0).trans rfl) ((Lib.cell_of_heap HVW.out.2 1).trans rfl) ((Lib.cell_of_heap HVW.out.2 2).trans rfl) ((Lib.cell_of_heap HVW.out.2 3).trans rfl) ((Lib.cell_of_heap HVW.out.2 4).trans rfl) ((Lib.cell_of_heap HVW.out.2 5).trans rfl)).mono ?_
    rintro en w2 ⟨tb, bx, cb, rfl, g1, g2, g3, hfn, hb2⟩
    have hm := shim_any nm a1 a2 a3 a4 a5 a6 a7 tb bx cb w2 HN.out hfn HW.out.2.1 HW.out.2.2 W.heap.size ⟨g1, g2, g3, hb2.size⟩
    rw [HM0.out] at hm
    have HM := Lib.hid hm
    have HB2 := Lib.hid hb2
    clear hb2 hfn g1 g2 g3 hm
    have hbase : ∀ w3, Below W.heap.size w2 w3 → Below w.heap.size w w3 ∧ w3.heap[w.heap.size]? = some (.cells #[.string a1, .string a2, .string a3, .string a4, .string a5, .string a6] 25 (0, 0)) := fun w3 h3 => by
      have h4 := HB2.out.trans h3
      exact ⟨HVW.out.1.trans (h4.mono HVW.out.1.size), (h4.block _ (Array.getElem?_eq_some_iff.1 HVW.out.2).1).trans HVW.out.2⟩
    have HBS := Lib.hid hbase
    clear hbase
    go_wp2_with fail
    refine HM.out.mono ?_
    rintro en w3 ⟨rfl, ⟨bx', cb', o, cap, m0, m1, m5, mb, hc, harg⟩, hb3⟩
    have H3 := Lib.hid (And.intro harg hb3)
    clear harg hb3
    go_wp2_with fail
    refine (ends_any cb' o 11 cap _ a7 w3 H3.out.1 (by omega) (by omega) hc (fun j hj => rfl)).mono ?_
    rintro en w4 ⟨rfl, rfl⟩
    go_wp2_with fail
    refine (decode_any cb' o 11 6 cap _ w3 H3.out.1 (fun j hj => kid_alt a1 a2 a3 a4 a5 a6 a7 j hj) rfl (by omega) hc).mono ?_
    rintro en w4 ⟨vb2, rfl, hvs, hvl, hb4⟩
    have hw4 := HBS.out w4 (H3.out.2.trans (hb4.mono (Nat.le_trans HB2.out.size H3.out.2.size)))
    have t1 := (hb4.cell (World.block_lt_of_cell? w3 _ m1)).trans m1
    have r0 := hvs 0 (by omega)
    have r1 := hvs 1 (by omega)
    have r2 := hvs 2 (by omega)
    have r3 := hvs 3 (by omega)
    have r4 := hvs 4 (by omega)
    have r5 := hvs 5 (by omega)
    have tl : tb < w4.heap.size := World.block_lt_of_cell? w4 _ t1
    have vl4 : vb2 < w4.heap.size := World.block_lt_of_cell? w4 _ r0
    have wl4 : w.heap.size < w4.heap.size := (Array.getElem?_eq_some_iff.1 hw4.2).1
    have v0 := (Lib.cell_of_heap hw4.2 0).trans rfl
    have v1 := (Lib.cell_of_heap hw4.2 1).trans rfl
    have v2 := (Lib.cell_of_heap hw4.2 2).trans rfl
    have v3 := (Lib.cell_of_heap hw4.2 3).trans rfl
    have v4 := (Lib.cell_of_heap hw4.2 4).trans rfl
    have v5 := (Lib.cell_of_heap hw4.2 5).trans rfl
    have HB4 := Lib.hid hw4.1
    clear hvs hb4 hw4
    obtain ⟨x1, x2, x3⟩ := name_not HN.out
    simp only [wsT, kid, num] at r0 r1 r2 r3 r4 r5
    have heq := HZ.out
    obtain ⟨hzb, hzc, hze, hzf, hz⟩ := heq
    have heq6 := HE6.out
    go_wp2_with fail
    go_region
    have HZ2 := Lib.hid hz
    clear hz
    cases zb <;> cases zc <;> cases ze <;> cases zf <;> first | (exact absurd HZ2.out (by decide)) | skip
    all_goals (
      go_wp2_with fail
      go_ret
      exact ⟨rfl, (HB4.out.alloc (Nat.le_of_lt (by omega)) _).drew⟩)
set_option maxHeartbeats 8000000 in
set_option maxRecDepth 100000 in
theorem walk_eq (a0 : Int) (a1 : ByteArray) (a7 : Int) (w : World) (w0 : 0 ≤ a0 ∧ a0 ≤ 255) (w1 : a1.size ≤ maxLen) (w7 : 0 ≤ a7 ∧ a7 ≤ 255)  :
    Calls Tryf.prog 3 #[.int .u8 a0, .string a1, .string (⟨#[48]⟩ : ByteArray), .string (⟨#[48]⟩ : ByteArray), .string a1, .string (⟨#[48]⟩ : ByteArray), .string (⟨#[48]⟩ : ByteArray), .int .u8 a7] w fun e w' => e = .returned (.bool true) ∧ Below w.heap.size w w' := by
  have zsz : ∀ {q : UInt8}, (⟨#[q]⟩ : ByteArray).size ≤ maxLen := fun {q} => by show 1 ≤ maxLen; unfold maxLen; omega
  have HW := Lib.hid (And.intro w0 w7)
  have HG := Lib.hid (bytes_any a0 a7 a1 (⟨#[48]⟩ : ByteArray) (⟨#[48]⟩ : ByteArray) a1 (⟨#[48]⟩ : ByteArray) (⟨#[48]⟩ : ByteArray) w w1 zsz zsz w1 zsz zsz)
  have heq6 := fun wx => eq6 a1 (⟨#[48]⟩ : ByteArray) (⟨#[48]⟩ : ByteArray) a1 (⟨#[48]⟩ : ByteArray) (⟨#[48]⟩ : ByteArray) w1 zsz zsz w1 zsz zsz wx
  have HE6 := Lib.hid heq6
  have hm0 := fun (w2 : World) (B tb : Nat) (nm : ByteArray) => show MRes w2 B tb nm a1 (⟨#[48]⟩ : ByteArray) (⟨#[48]⟩ : ByteArray) a1 (⟨#[48]⟩ : ByteArray) (⟨#[48]⟩ : ByteArray) a7 = MEnd w2 B tb scaleS 1 a7 (fun _ => num a1 a7) from by
    funext en w'
    unfold MRes
    rw [if_pos diagZ, if_pos (by simp)]
  have HM0 := Lib.hid hm0
  unfold maxLen at w1
  clear w0 w7 zsz heq6 hm0
  go_enter Tryf.func3, Tryf.ntmps3
  go_wp2_with fail
  refine HG.out.mono ?_
  rintro en w' ⟨bb, rfl, rfl⟩
  cases bb
  · go_wp2_with fail
    go_ret
    exact ⟨rfl, Below.refl _ _⟩
  by_cases hs : a1.size ≤ 65536
  case neg =>
    go_wp2_with fail
    all_goals
      go_ret
      exact ⟨rfl, Below.refl _ _⟩
  case pos =>
    have s1 := hs
    clear hs
    go_wp2_with fail
    refine (name_any a0 HW.out.1.1 HW.out.1.2 w).mono ?_
    rintro en w' ⟨nm, rfl, hnm, rfl⟩
    have HN := Lib.hid hnm
    clear hnm w1 s1
    go_wp2_with fail
    obtain ⟨W, hW⟩ : ∃ W, w.alloc (Obj.cells #[Value.string a1, Value.string (⟨#[48]⟩ : ByteArray), Value.string (⟨#[48]⟩ : ByteArray), Value.string a1, Value.string (⟨#[48]⟩ : ByteArray), Value.string (⟨#[48]⟩ : ByteArray)] 25) = W := ⟨_, rfl⟩
    rw [hW]
    have hbW : Below w.heap.size w W := by rw [← hW]; exact (Below.refl _ _).alloc (Nat.le_refl _) _
    have hv : W.heap[w.heap.size]? = some (.cells #[.string a1, .string (⟨#[48]⟩ : ByteArray), .string (⟨#[48]⟩ : ByteArray), .string a1, .string (⟨#[48]⟩ : ByteArray), .string (⟨#[48]⟩ : ByteArray)] 25 (0, 0)) := by rw [← hW]; exact heap_alloc_new w _
    have HVW := Lib.hid (And.intro hbW hv)
    clear hW hbW hv
    refine (buildfn_any nm a1 (⟨#[48]⟩ : ByteArray) (⟨#[48]⟩ : ByteArray) a1 (⟨#[48]⟩ : ByteArray) (⟨#[48]⟩ : ByteArray) w.heap.size a7 W ((Lib.cell_of_heap HVW.out.2 0).trans rfl) ((Lib.cell_of_heap HVW.out.2 1).trans rfl) ((Lib.cell_of_heap HVW.out.2 2).trans rfl) ((Lib.cell_of_heap HVW.out.2 3).trans rfl) ((Lib.cell_of_heap HVW.out.2 4).trans rfl) ((Lib.cell_of_heap HVW.out.2 5).trans rfl)).mono ?_
    rintro en w2 ⟨tb, bx, cb, rfl, g1, g2, g3, hfn, hb2⟩
    have hm := shim_any nm a1 (⟨#[48]⟩ : ByteArray) (⟨#[48]⟩ : ByteArray) a1 (⟨#[48]⟩ : ByteArray) (⟨#[48]⟩ : ByteArray) a7 tb bx cb w2 HN.out hfn HW.out.2.1 HW.out.2.2 W.heap.size ⟨g1, g2, g3, hb2.size⟩
    rw [HM0.out] at hm
    have HM := Lib.hid hm
    have HB2 := Lib.hid hb2
    clear hb2 hfn g1 g2 g3 hm
    have hbase : ∀ w3, Below W.heap.size w2 w3 → Below w.heap.size w w3 ∧ w3.heap[w.heap.size]? = some (.cells #[.string a1, .string (⟨#[48]⟩ : ByteArray), .string (⟨#[48]⟩ : ByteArray), .string a1, .string (⟨#[48]⟩ : ByteArray), .string (⟨#[48]⟩ : ByteArray)] 25 (0, 0)) := fun w3 h3 => by
      have h4 := HB2.out.trans h3
      exact ⟨HVW.out.1.trans (h4.mono HVW.out.1.size), (h4.block _ (Array.getElem?_eq_some_iff.1 HVW.out.2).1).trans HVW.out.2⟩
    have HBS := Lib.hid hbase
    clear hbase
    go_wp2_with fail
    refine HM.out.mono ?_
    rintro en w3 ⟨rfl, ⟨bx', cb', o, cap, m0, m1, m5, mb, hc, harg⟩, hb3⟩
    have H3 := Lib.hid (And.intro harg hb3)
    clear harg hb3
    go_wp2_with fail
    refine (ends_any cb' o 1 cap _ a7 w3 H3.out.1 (by omega) (by omega) hc (fun j hj => rfl)).mono ?_
    rintro en w4 ⟨rfl, rfl⟩
    go_wp2_with fail
    refine (decode_any cb' o 1 1 cap _ w3 H3.out.1 (fun j hj => by
      have h0 : j = 0 := by omega
      subst h0
      rfl) rfl (by omega) hc).mono ?_
    rintro en w4 ⟨vb2, rfl, hvs, hvl, hb4⟩
    have hw4 := HBS.out w4 (H3.out.2.trans (hb4.mono (Nat.le_trans HB2.out.size H3.out.2.size)))
    have t1 := (hb4.cell (World.block_lt_of_cell? w3 _ m1)).trans m1
    have r0 := hvs 0 (by omega)
    have tl : tb < w4.heap.size := World.block_lt_of_cell? w4 _ t1
    have vl4 : vb2 < w4.heap.size := World.block_lt_of_cell? w4 _ r0
    have wl4 : w.heap.size < w4.heap.size := (Array.getElem?_eq_some_iff.1 hw4.2).1
    have v0 := (Lib.cell_of_heap hw4.2 0).trans rfl
    have v1 := (Lib.cell_of_heap hw4.2 1).trans rfl
    have v2 := (Lib.cell_of_heap hw4.2 2).trans rfl
    have v3 := (Lib.cell_of_heap hw4.2 3).trans rfl
    have v4 := (Lib.cell_of_heap hw4.2 4).trans rfl
    have v5 := (Lib.cell_of_heap hw4.2 5).trans rfl
    have HB4 := Lib.hid hw4.1
    clear hvs hb4 hw4
    simp only [wsT, num] at r0
    have hq : (a1.toList == a1.toList) = true := by simp
    unfold scaleS at t1
    have heq6 := HE6.out
    go_wp2_with fail
    go_region
    all_goals (
      go_wp2_with fail
      go_ret
      exact ⟨rfl, (HB4.out.alloc (Nat.le_of_lt (by omega)) _).drew⟩)
set_option maxHeartbeats 8000000 in
set_option maxRecDepth 100000 in
theorem walk_x (a0 : Int) (a1 : ByteArray) (a7 : Int) (w : World) (w0 : 0 ≤ a0 ∧ a0 ≤ 255) (w1 : a1.size ≤ maxLen) (w7 : 0 ≤ a7 ∧ a7 ≤ 255) (hq : (a1.toList == [49]) = false) :
    Calls Tryf.prog 3 #[.int .u8 a0, .string a1, .string (⟨#[48]⟩ : ByteArray), .string (⟨#[48]⟩ : ByteArray), .string (⟨#[49]⟩ : ByteArray), .string (⟨#[48]⟩ : ByteArray), .string (⟨#[48]⟩ : ByteArray), .int .u8 a7] w fun e w' => e = .returned (.bool true) ∧ Below w.heap.size w w' := by
  have zsz : ∀ {q : UInt8}, (⟨#[q]⟩ : ByteArray).size ≤ maxLen := fun {q} => by show 1 ≤ maxLen; unfold maxLen; omega
  have HW := Lib.hid (And.intro w0 w7)
  have HG := Lib.hid (bytes_any a0 a7 a1 (⟨#[48]⟩ : ByteArray) (⟨#[48]⟩ : ByteArray) (⟨#[49]⟩ : ByteArray) (⟨#[48]⟩ : ByteArray) (⟨#[48]⟩ : ByteArray) w w1 zsz zsz zsz zsz zsz)
  have heq6 := fun wx => eq6 a1 (⟨#[48]⟩ : ByteArray) (⟨#[48]⟩ : ByteArray) (⟨#[49]⟩ : ByteArray) (⟨#[48]⟩ : ByteArray) (⟨#[48]⟩ : ByteArray) w1 zsz zsz zsz zsz zsz wx
  have HE6 := Lib.hid heq6
  have hm0 := fun (w2 : World) (B tb : Nat) (nm : ByteArray) => show MRes w2 B tb nm a1 (⟨#[48]⟩ : ByteArray) (⟨#[48]⟩ : ByteArray) (⟨#[49]⟩ : ByteArray) (⟨#[48]⟩ : ByteArray) (⟨#[48]⟩ : ByteArray) a7 = MEnd w2 B tb scaleXS 1 a7 (fun _ => num a1 a7) from by
    funext en w'
    unfold MRes
    rw [if_pos diagZ, if_neg (by rw [show (⟨#[49]⟩ : ByteArray).toList = [49] from by rw [Lib.toList_data]]; rw [hq]; decide), if_pos (by rw [Lib.toList_data]; rfl)]
  have HM0 := Lib.hid hm0
  unfold maxLen at w1
  have HQ := Lib.hid hq
  clear hq
  clear w0 w7 zsz heq6 hm0
  go_enter Tryf.func3, Tryf.ntmps3
  go_wp2_with fail
  refine HG.out.mono ?_
  rintro en w' ⟨bb, rfl, rfl⟩
  cases bb
  · go_wp2_with fail
    go_ret
    exact ⟨rfl, Below.refl _ _⟩
  by_cases hs : a1.size ≤ 65536
  case neg =>
    go_wp2_with fail
    all_goals
      go_ret
      exact ⟨rfl, Below.refl _ _⟩
  case pos =>
    have s1 := hs
    clear hs
    go_wp2_with fail
    refine (name_any a0 HW.out.1.1 HW.out.1.2 w).mono ?_
    rintro en w' ⟨nm, rfl, hnm, rfl⟩
    have HN := Lib.hid hnm
    clear hnm w1 s1
    go_wp2_with fail
    obtain ⟨W, hW⟩ : ∃ W, w.alloc (Obj.cells #[Value.string a1, Value.string (⟨#[48]⟩ : ByteArray), Value.string (⟨#[48]⟩ : ByteArray), Value.string (⟨#[49]⟩ : ByteArray), Value.string (⟨#[48]⟩ : ByteArray), Value.string (⟨#[48]⟩ : ByteArray)] 25) = W := ⟨_, rfl⟩
    rw [hW]
    have hbW : Below w.heap.size w W := by rw [← hW]; exact (Below.refl _ _).alloc (Nat.le_refl _) _
    have hv : W.heap[w.heap.size]? = some (.cells #[.string a1, .string (⟨#[48]⟩ : ByteArray), .string (⟨#[48]⟩ : ByteArray), .string (⟨#[49]⟩ : ByteArray), .string (⟨#[48]⟩ : ByteArray), .string (⟨#[48]⟩ : ByteArray)] 25 (0, 0)) := by rw [← hW]; exact heap_alloc_new w _
    have HVW := Lib.hid (And.intro hbW hv)
    clear hW hbW hv
    refine (buildfn_any nm a1 (⟨#[48]⟩ : ByteArray) (⟨#[48]⟩ : ByteArray) (⟨#[49]⟩ : ByteArray) (⟨#[48]⟩ : ByteArray) (⟨#[48]⟩ : ByteArray) w.heap.size a7 W ((Lib.cell_of_heap HVW.out.2 0).trans rfl) ((Lib.cell_of_heap HVW.out.2 1).trans rfl) ((Lib.cell_of_heap HVW.out.2 2).trans rfl) ((Lib.cell_of_heap HVW.out.2 3).trans rfl) ((Lib.cell_of_heap HVW.out.2 4).trans rfl) ((Lib.cell_of_heap HVW.out.2 5).trans rfl)).mono ?_
    rintro en w2 ⟨tb, bx, cb, rfl, g1, g2, g3, hfn, hb2⟩
    have hm := shim_any nm a1 (⟨#[48]⟩ : ByteArray) (⟨#[48]⟩ : ByteArray) (⟨#[49]⟩ : ByteArray) (⟨#[48]⟩ : ByteArray) (⟨#[48]⟩ : ByteArray) a7 tb bx cb w2 HN.out hfn HW.out.2.1 HW.out.2.2 W.heap.size ⟨g1, g2, g3, hb2.size⟩
    rw [HM0.out] at hm
    have HM := Lib.hid hm
    have HB2 := Lib.hid hb2
    clear hb2 hfn g1 g2 g3 hm
    have hbase : ∀ w3, Below W.heap.size w2 w3 → Below w.heap.size w w3 ∧ w3.heap[w.heap.size]? = some (.cells #[.string a1, .string (⟨#[48]⟩ : ByteArray), .string (⟨#[48]⟩ : ByteArray), .string (⟨#[49]⟩ : ByteArray), .string (⟨#[48]⟩ : ByteArray), .string (⟨#[48]⟩ : ByteArray)] 25 (0, 0)) := fun w3 h3 => by
      have h4 := HB2.out.trans h3
      exact ⟨HVW.out.1.trans (h4.mono HVW.out.1.size), (h4.block _ (Array.getElem?_eq_some_iff.1 HVW.out.2).1).trans HVW.out.2⟩
    have HBS := Lib.hid hbase
    clear hbase
    go_wp2_with fail
    refine HM.out.mono ?_
    rintro en w3 ⟨rfl, ⟨bx', cb', o, cap, m0, m1, m5, mb, hc, harg⟩, hb3⟩
    have H3 := Lib.hid (And.intro harg hb3)
    clear harg hb3
    go_wp2_with fail
    refine (ends_any cb' o 1 cap _ a7 w3 H3.out.1 (by omega) (by omega) hc (fun j hj => rfl)).mono ?_
    rintro en w4 ⟨rfl, rfl⟩
    go_wp2_with fail
    refine (decode_any cb' o 1 1 cap _ w3 H3.out.1 (fun j hj => by
      have h0 : j = 0 := by omega
      subst h0
      rfl) rfl (by omega) hc).mono ?_
    rintro en w4 ⟨vb2, rfl, hvs, hvl, hb4⟩
    have hw4 := HBS.out w4 (H3.out.2.trans (hb4.mono (Nat.le_trans HB2.out.size H3.out.2.size)))
    have t1 := (hb4.cell (World.block_lt_of_cell? w3 _ m1)).trans m1
    have r0 := hvs 0 (by omega)
    have tl : tb < w4.heap.size := World.block_lt_of_cell? w4 _ t1
    have vl4 : vb2 < w4.heap.size := World.block_lt_of_cell? w4 _ r0
    have wl4 : w.heap.size < w4.heap.size := (Array.getElem?_eq_some_iff.1 hw4.2).1
    have v0 := (Lib.cell_of_heap hw4.2 0).trans rfl
    have v1 := (Lib.cell_of_heap hw4.2 1).trans rfl
    have v2 := (Lib.cell_of_heap hw4.2 2).trans rfl
    have v3 := (Lib.cell_of_heap hw4.2 3).trans rfl
    have v4 := (Lib.cell_of_heap hw4.2 4).trans rfl
    have v5 := (Lib.cell_of_heap hw4.2 5).trans rfl
    have HB4 := Lib.hid hw4.1
    clear hvs hb4 hw4
    simp only [wsT, num] at r0
    have hq := HQ.out
    unfold scaleXS at t1
    have heq6 := HE6.out
    go_wp2_with fail
    all_goals (
      go_wp2_with fail
      go_ret
      exact ⟨rfl, (HB4.out.alloc (Nat.le_of_lt (by omega)) _)⟩)
set_option maxHeartbeats 8000000 in
set_option maxRecDepth 100000 in
theorem walk_y (a0 : Int) (a4 : ByteArray) (a7 : Int) (w : World) (w0 : 0 ≤ a0 ∧ a0 ≤ 255) (w4 : a4.size ≤ maxLen) (w7 : 0 ≤ a7 ∧ a7 ≤ 255) (hq : (a4.toList == [49]) = false) :
    Calls Tryf.prog 3 #[.int .u8 a0, .string (⟨#[49]⟩ : ByteArray), .string (⟨#[48]⟩ : ByteArray), .string (⟨#[48]⟩ : ByteArray), .string a4, .string (⟨#[48]⟩ : ByteArray), .string (⟨#[48]⟩ : ByteArray), .int .u8 a7] w fun e w' => e = .returned (.bool true) ∧ Below w.heap.size w w' := by
  have zsz : ∀ {q : UInt8}, (⟨#[q]⟩ : ByteArray).size ≤ maxLen := fun {q} => by show 1 ≤ maxLen; unfold maxLen; omega
  have HW := Lib.hid (And.intro w0 w7)
  have HG := Lib.hid (bytes_any a0 a7 (⟨#[49]⟩ : ByteArray) (⟨#[48]⟩ : ByteArray) (⟨#[48]⟩ : ByteArray) a4 (⟨#[48]⟩ : ByteArray) (⟨#[48]⟩ : ByteArray) w zsz zsz zsz w4 zsz zsz)
  have heq6 := fun wx => eq6 (⟨#[49]⟩ : ByteArray) (⟨#[48]⟩ : ByteArray) (⟨#[48]⟩ : ByteArray) a4 (⟨#[48]⟩ : ByteArray) (⟨#[48]⟩ : ByteArray) zsz zsz zsz w4 zsz zsz wx
  have HE6 := Lib.hid heq6
  have hm0 := fun (w2 : World) (B tb : Nat) (nm : ByteArray) => show MRes w2 B tb nm (⟨#[49]⟩ : ByteArray) (⟨#[48]⟩ : ByteArray) (⟨#[48]⟩ : ByteArray) a4 (⟨#[48]⟩ : ByteArray) (⟨#[48]⟩ : ByteArray) a7 = MEnd w2 B tb scaleYS 1 a7 (fun _ => num a4 a7) from by
    funext en w'
    unfold MRes
    rw [if_pos diagZ, if_neg (by rw [show (⟨#[49]⟩ : ByteArray).toList = [49] from by rw [Lib.toList_data]]; intro h; rw [beq_iff_eq] at h; rw [← h] at hq; simp at hq), if_neg (by rw [hq]; decide), if_pos (by rw [Lib.toList_data]; rfl)]
  have HM0 := Lib.hid hm0
  unfold maxLen at w4
  have HQ := Lib.hid hq
  clear hq
  clear w0 w7 zsz heq6 hm0
  go_enter Tryf.func3, Tryf.ntmps3
  go_wp2_with fail
  refine HG.out.mono ?_
  rintro en w' ⟨bb, rfl, rfl⟩
  cases bb
  · go_wp2_with fail
    go_ret
    exact ⟨rfl, Below.refl _ _⟩
  by_cases hs : a4.size ≤ 65536
  case neg =>
    go_wp2_with fail
    all_goals
      go_ret
      exact ⟨rfl, Below.refl _ _⟩
  case pos =>
    have s4 := hs
    clear hs
    go_wp2_with fail
    refine (name_any a0 HW.out.1.1 HW.out.1.2 w).mono ?_
    rintro en w' ⟨nm, rfl, hnm, rfl⟩
    have HN := Lib.hid hnm
    clear hnm w4 s4
    go_wp2_with fail
    obtain ⟨W, hW⟩ : ∃ W, w.alloc (Obj.cells #[Value.string (⟨#[49]⟩ : ByteArray), Value.string (⟨#[48]⟩ : ByteArray), Value.string (⟨#[48]⟩ : ByteArray), Value.string a4, Value.string (⟨#[48]⟩ : ByteArray), Value.string (⟨#[48]⟩ : ByteArray)] 25) = W := ⟨_, rfl⟩
    rw [hW]
    have hbW : Below w.heap.size w W := by rw [← hW]; exact (Below.refl _ _).alloc (Nat.le_refl _) _
    have hv : W.heap[w.heap.size]? = some (.cells #[.string (⟨#[49]⟩ : ByteArray), .string (⟨#[48]⟩ : ByteArray), .string (⟨#[48]⟩ : ByteArray), .string a4, .string (⟨#[48]⟩ : ByteArray), .string (⟨#[48]⟩ : ByteArray)] 25 (0, 0)) := by rw [← hW]; exact heap_alloc_new w _
    have HVW := Lib.hid (And.intro hbW hv)
    clear hW hbW hv
    refine (buildfn_any nm (⟨#[49]⟩ : ByteArray) (⟨#[48]⟩ : ByteArray) (⟨#[48]⟩ : ByteArray) a4 (⟨#[48]⟩ : ByteArray) (⟨#[48]⟩ : ByteArray) w.heap.size a7 W ((Lib.cell_of_heap HVW.out.2 0).trans rfl) ((Lib.cell_of_heap HVW.out.2 1).trans rfl) ((Lib.cell_of_heap HVW.out.2 2).trans rfl) ((Lib.cell_of_heap HVW.out.2 3).trans rfl) ((Lib.cell_of_heap HVW.out.2 4).trans rfl) ((Lib.cell_of_heap HVW.out.2 5).trans rfl)).mono ?_
    rintro en w2 ⟨tb, bx, cb, rfl, g1, g2, g3, hfn, hb2⟩
    have hm := shim_any nm (⟨#[49]⟩ : ByteArray) (⟨#[48]⟩ : ByteArray) (⟨#[48]⟩ : ByteArray) a4 (⟨#[48]⟩ : ByteArray) (⟨#[48]⟩ : ByteArray) a7 tb bx cb w2 HN.out hfn HW.out.2.1 HW.out.2.2 W.heap.size ⟨g1, g2, g3, hb2.size⟩
    rw [HM0.out] at hm
    have HM := Lib.hid hm
    have HB2 := Lib.hid hb2
    clear hb2 hfn g1 g2 g3 hm
    have hbase : ∀ w3, Below W.heap.size w2 w3 → Below w.heap.size w w3 ∧ w3.heap[w.heap.size]? = some (.cells #[.string (⟨#[49]⟩ : ByteArray), .string (⟨#[48]⟩ : ByteArray), .string (⟨#[48]⟩ : ByteArray), .string a4, .string (⟨#[48]⟩ : ByteArray), .string (⟨#[48]⟩ : ByteArray)] 25 (0, 0)) := fun w3 h3 => by
      have h4 := HB2.out.trans h3
      exact ⟨HVW.out.1.trans (h4.mono HVW.out.1.size), (h4.block _ (Array.getElem?_eq_some_iff.1 HVW.out.2).1).trans HVW.out.2⟩
    have HBS := Lib.hid hbase
    clear hbase
    go_wp2_with fail
    refine HM.out.mono ?_
    rintro en w3 ⟨rfl, ⟨bx', cb', o, cap, m0, m1, m5, mb, hc, harg⟩, hb3⟩
    have H3 := Lib.hid (And.intro harg hb3)
    clear harg hb3
    go_wp2_with fail
    refine (ends_any cb' o 1 cap _ a7 w3 H3.out.1 (by omega) (by omega) hc (fun j hj => rfl)).mono ?_
    rintro en w4 ⟨rfl, rfl⟩
    go_wp2_with fail
    refine (decode_any cb' o 1 1 cap _ w3 H3.out.1 (fun j hj => by
      have h0 : j = 0 := by omega
      subst h0
      rfl) rfl (by omega) hc).mono ?_
    rintro en w4 ⟨vb2, rfl, hvs, hvl, hb4⟩
    have hw4 := HBS.out w4 (H3.out.2.trans (hb4.mono (Nat.le_trans HB2.out.size H3.out.2.size)))
    have t1 := (hb4.cell (World.block_lt_of_cell? w3 _ m1)).trans m1
    have r0 := hvs 0 (by omega)
    have tl : tb < w4.heap.size := World.block_lt_of_cell? w4 _ t1
    have vl4 : vb2 < w4.heap.size := World.block_lt_of_cell? w4 _ r0
    have wl4 : w.heap.size < w4.heap.size := (Array.getElem?_eq_some_iff.1 hw4.2).1
    have v0 := (Lib.cell_of_heap hw4.2 0).trans rfl
    have v1 := (Lib.cell_of_heap hw4.2 1).trans rfl
    have v2 := (Lib.cell_of_heap hw4.2 2).trans rfl
    have v3 := (Lib.cell_of_heap hw4.2 3).trans rfl
    have v4 := (Lib.cell_of_heap hw4.2 4).trans rfl
    have v5 := (Lib.cell_of_heap hw4.2 5).trans rfl
    have HB4 := Lib.hid hw4.1
    clear hvs hb4 hw4
    simp only [wsT, num] at r0
    have hq := HQ.out
    have hq2 : ([49] == a4.toList) = false := by
      cases hb : ([49] == a4.toList) with
      | false => rfl
      | true =>
        rw [beq_iff_eq] at hb
        rw [← hb] at hq
        cases hq
    unfold scaleYS at t1
    have heq6 := HE6.out
    go_wp2_with fail
    all_goals (
      go_wp2_with fail
      go_ret
      exact ⟨rfl, (HB4.out.alloc (Nat.le_of_lt (by omega)) _)⟩)
set_option maxHeartbeats 8000000 in
set_option maxRecDepth 100000 in
theorem walk_three (a0 : Int) (a1 a4 : ByteArray) (a7 : Int) (w : World) (w0 : 0 ≤ a0 ∧ a0 ≤ 255) (w1 : a1.size ≤ maxLen) (w4 : a4.size ≤ maxLen) (w7 : 0 ≤ a7 ∧ a7 ≤ 255) (hq : (a1.toList == a4.toList) = false) (hq1 : (a4.toList == [49]) = false) (hq2 : (a1.toList == [49]) = false) :
    Calls Tryf.prog 3 #[.int .u8 a0, .string a1, .string (⟨#[48]⟩ : ByteArray), .string (⟨#[48]⟩ : ByteArray), .string a4, .string (⟨#[48]⟩ : ByteArray), .string (⟨#[48]⟩ : ByteArray), .int .u8 a7] w fun e w' => e = .returned (.bool true) ∧ Below w.heap.size w w' := by
  have zsz : ∀ {q : UInt8}, (⟨#[q]⟩ : ByteArray).size ≤ maxLen := fun {q} => by show 1 ≤ maxLen; unfold maxLen; omega
  have HW := Lib.hid (And.intro w0 w7)
  have HG := Lib.hid (bytes_any a0 a7 a1 (⟨#[48]⟩ : ByteArray) (⟨#[48]⟩ : ByteArray) a4 (⟨#[48]⟩ : ByteArray) (⟨#[48]⟩ : ByteArray) w w1 zsz zsz w4 zsz zsz)
  have heq6 := fun wx => eq6 a1 (⟨#[48]⟩ : ByteArray) (⟨#[48]⟩ : ByteArray) a4 (⟨#[48]⟩ : ByteArray) (⟨#[48]⟩ : ByteArray) w1 zsz zsz w4 zsz zsz wx
  have HE6 := Lib.hid heq6
  have hm0 := fun (w2 : World) (B tb : Nat) (nm : ByteArray) => show MRes w2 B tb nm a1 (⟨#[48]⟩ : ByteArray) (⟨#[48]⟩ : ByteArray) a4 (⟨#[48]⟩ : ByteArray) (⟨#[48]⟩ : ByteArray) a7 = MEnd w2 B tb scaleS 3 a7 (three a1 a4 a7) from by
    funext en w'
    unfold MRes
    rw [if_pos diagZ, if_neg (by rw [hq]; decide), if_neg (by rw [hq1]; decide), if_neg (by rw [hq2]; decide)]
  have HM0 := Lib.hid hm0
  unfold maxLen at w1 w4
  have HQ := Lib.hid (And.intro hq (And.intro hq1 hq2))
  clear hq hq1 hq2
  clear w0 w7 zsz heq6 hm0
  go_enter Tryf.func3, Tryf.ntmps3
  go_wp2_with fail
  refine HG.out.mono ?_
  rintro en w' ⟨bb, rfl, rfl⟩
  cases bb
  · go_wp2_with fail
    go_ret
    exact ⟨rfl, Below.refl _ _⟩
  by_cases hs : a1.size ≤ 65536 ∧ a4.size ≤ 65536
  case neg =>
    go_wp2_with fail
    all_goals
      go_ret
      exact ⟨rfl, Below.refl _ _⟩
  case pos =>
    obtain ⟨s1, s4⟩ := hs
    go_wp2_with fail
    refine (name_any a0 HW.out.1.1 HW.out.1.2 w).mono ?_
    rintro en w' ⟨nm, rfl, hnm, rfl⟩
    have HN := Lib.hid hnm
    clear hnm w1 s1 w4 s4
    go_wp2_with fail
    obtain ⟨W, hW⟩ : ∃ W, w.alloc (Obj.cells #[Value.string a1, Value.string (⟨#[48]⟩ : ByteArray), Value.string (⟨#[48]⟩ : ByteArray), Value.string a4, Value.string (⟨#[48]⟩ : ByteArray), Value.string (⟨#[48]⟩ : ByteArray)] 25) = W := ⟨_, rfl⟩
    rw [hW]
    have hbW : Below w.heap.size w W := by rw [← hW]; exact (Below.refl _ _).alloc (Nat.le_refl _) _
    have hv : W.heap[w.heap.size]? = some (.cells #[.string a1, .string (⟨#[48]⟩ : ByteArray), .string (⟨#[48]⟩ : ByteArray), .string a4, .string (⟨#[48]⟩ : ByteArray), .string (⟨#[48]⟩ : ByteArray)] 25 (0, 0)) := by rw [← hW]; exact heap_alloc_new w _
    have HVW := Lib.hid (And.intro hbW hv)
    clear hW hbW hv
    refine (buildfn_any nm a1 (⟨#[48]⟩ : ByteArray) (⟨#[48]⟩ : ByteArray) a4 (⟨#[48]⟩ : ByteArray) (⟨#[48]⟩ : ByteArray) w.heap.size a7 W ((Lib.cell_of_heap HVW.out.2 0).trans rfl) ((Lib.cell_of_heap HVW.out.2 1).trans rfl) ((Lib.cell_of_heap HVW.out.2 2).trans rfl) ((Lib.cell_of_heap HVW.out.2 3).trans rfl) ((Lib.cell_of_heap HVW.out.2 4).trans rfl) ((Lib.cell_of_heap HVW.out.2 5).trans rfl)).mono ?_
    rintro en w2 ⟨tb, bx, cb, rfl, g1, g2, g3, hfn, hb2⟩
    have hm := shim_any nm a1 (⟨#[48]⟩ : ByteArray) (⟨#[48]⟩ : ByteArray) a4 (⟨#[48]⟩ : ByteArray) (⟨#[48]⟩ : ByteArray) a7 tb bx cb w2 HN.out hfn HW.out.2.1 HW.out.2.2 W.heap.size ⟨g1, g2, g3, hb2.size⟩
    rw [HM0.out] at hm
    have HM := Lib.hid hm
    have HB2 := Lib.hid hb2
    clear hb2 hfn g1 g2 g3 hm
    have hbase : ∀ w3, Below W.heap.size w2 w3 → Below w.heap.size w w3 ∧ w3.heap[w.heap.size]? = some (.cells #[.string a1, .string (⟨#[48]⟩ : ByteArray), .string (⟨#[48]⟩ : ByteArray), .string a4, .string (⟨#[48]⟩ : ByteArray), .string (⟨#[48]⟩ : ByteArray)] 25 (0, 0)) := fun w3 h3 => by
      have h4 := HB2.out.trans h3
      exact ⟨HVW.out.1.trans (h4.mono HVW.out.1.size), (h4.block _ (Array.getElem?_eq_some_iff.1 HVW.out.2).1).trans HVW.out.2⟩
    have HBS := Lib.hid hbase
    clear hbase
    go_wp2_with fail
    refine HM.out.mono ?_
    rintro en w3 ⟨rfl, ⟨bx', cb', o, cap, m0, m1, m5, mb, hc, harg⟩, hb3⟩
    have H3 := Lib.hid (And.intro harg hb3)
    clear harg hb3
    go_wp2_with fail
    refine (ends_any cb' o 3 cap _ a7 w3 H3.out.1 (by omega) (by omega) hc (fun j hj => rfl)).mono ?_
    rintro en w4 ⟨rfl, rfl⟩
    go_wp2_with fail
    refine (decode_any cb' o 3 2 cap _ w3 H3.out.1 (fun j hj => by rcases (show j = 0 ∨ j = 1 ∨ j = 2 by omega) with rfl | rfl | rfl <;> rfl) rfl (by omega) hc).mono ?_
    rintro en w4 ⟨vb2, rfl, hvs, hvl, hb4⟩
    have hw4 := HBS.out w4 (H3.out.2.trans (hb4.mono (Nat.le_trans HB2.out.size H3.out.2.size)))
    have t1 := (hb4.cell (World.block_lt_of_cell? w3 _ m1)).trans m1
    have r0 := hvs 0 (by omega)
    have r1 := hvs 1 (by omega)
    have tl : tb < w4.heap.size := World.block_lt_of_cell? w4 _ t1
    have vl4 : vb2 < w4.heap.size := World.block_lt_of_cell? w4 _ r0
    have wl4 : w.heap.size < w4.heap.size := (Array.getElem?_eq_some_iff.1 hw4.2).1
    have v0 := (Lib.cell_of_heap hw4.2 0).trans rfl
    have v1 := (Lib.cell_of_heap hw4.2 1).trans rfl
    have v2 := (Lib.cell_of_heap hw4.2 2).trans rfl
    have v3 := (Lib.cell_of_heap hw4.2 3).trans rfl
    have v4 := (Lib.cell_of_heap hw4.2 4).trans rfl
    have v5 := (Lib.cell_of_heap hw4.2 5).trans rfl
    have HB4 := Lib.hid hw4.1
    clear hvs hb4 hw4
    simp only [wsT, three, num] at r0 r1
    obtain ⟨hq, hq1, hq2⟩ := HQ.out
    unfold scaleS at t1
    have heq6 := HE6.out
    go_wp2_with fail
    go_region
    all_goals (
      go_wp2_with fail
      go_ret
      exact ⟨rfl, (HB4.out.alloc (Nat.le_of_lt (by omega)) _).drew⟩)
theorem fnMangleTransformsMatrixExact_walk (a0 : Int) (a1 a2 a3 a4 a5 a6 : ByteArray) (a7 : Int) (w : World) (w0 : 0 ≤ a0 ∧ a0 ≤ 255) (w1 : a1.size ≤ maxLen) (w2 : a2.size ≤ maxLen) (w3 : a3.size ≤ maxLen) (w4 : a4.size ≤ maxLen) (w5 : a5.size ≤ maxLen) (w6 : a6.size ≤ maxLen) (w7 : 0 ≤ a7 ∧ a7 ≤ 255) :
    Calls Tryf.prog 3 #[.int .u8 a0, .string a1, .string a2, .string a3, .string a4, .string a5, .string a6, .int .u8 a7] w fun e w' => e = .returned (.bool true) ∧ Below w.heap.size w w' := by
  by_cases hd : ((a2.toList == [48]) && ((a3.toList == [48]) && ((a5.toList == [48]) && (a6.toList == [48])))) = true
  · simp only [Bool.and_eq_true] at hd
    obtain rfl := of_list hd.1
    obtain rfl := of_list hd.2.1
    obtain rfl := of_list hd.2.2.1
    obtain rfl := of_list hd.2.2.2
    by_cases he : (a1.toList == a4.toList) = true
    · obtain rfl := eq_list he
      exact walk_eq a0 a1 a7 w w0 w1 w7
    · by_cases h4 : (a4.toList == [49]) = true
      · obtain rfl := of_list h4
        refine walk_x a0 a1 a7 w w0 w1 w7 ?_
        rw [show (⟨[49].toArray⟩ : ByteArray).toList = [49] from by rw [Lib.toList_data]] at he
        simpa using he
      · by_cases h1 : (a1.toList == [49]) = true
        · obtain rfl := of_list h1
          exact walk_y a0 a4 a7 w w0 w4 w7 (by simpa using h4)
        · exact walk_three a0 a1 a4 a7 w w0 w1 w4 w7 (by simpa using he) (by simpa using h4) (by simpa using h1)
  · exact walk_six a0 a1 a2 a3 a4 a5 a6 a7 w w0 w1 w2 w3 w4 w5 w6 w7 _ _ _ _ rfl rfl rfl rfl (by simpa using hd)
end Go.Proofs.YtjanppdeddfehaaFmt
