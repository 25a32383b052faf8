/-
  (NameMinifier).ShuffleByCharFreq: the letters in their order; conditions: those that each lemma names.
-/
import Derived.Test.YtmnoffiblcnjpaaZsh
namespace Go.Proofs.Ytmnoffiblcnjpaa
open Go.RowKit Go.Sort

theorem info38 : (Try.prog.info? 38).map (fun i => (i.zero, i.size, i.bytes)) = some (some (.agg #[.string ⟨#[]⟩, .int .i32 0, .int .u8 0]), 3, 24) := by kernel_rfl
/-- The first k letters, then blanks. -/
def elB (T : List UInt8) (C : Nat → Int) (k : Nat) : Array El := Array.ofFn fun j : Fin 64 => if j.val < k then elT T C j else default
theorem elB_size (T : List UInt8) (C : Nat → Int) (k : Nat) : (elB T C k).size = 64 := by simp [elB]
theorem elB_get (T : List UInt8) (C : Nat → Int) (k j : Nat) (h : j < 64) : (elB T C k)[j]! = if j < k then elT T C j else default := by
  rw [getElem!_pos _ j (by rw [elB_size]; exact h)]
  simp [elB]
theorem elB_next (T : List UInt8) (C : Nat → Int) (k m : Nat) (hm : m < 64 * 3) :
    (if m = k * 3 + 2 then (.int .u8 (k : Int) : Value) else if m = k * 3 + 1 then .int .i32 (C k) else if m = k * 3 then .string (S [T[k]!]) else fE (elB T C k) m) = fE (elB T C (k + 1)) m := by
  obtain ⟨q, r, hr, rfl⟩ : ∃ q r, r < 3 ∧ m = q * 3 + r := ⟨m / 3, m % 3, Nat.mod_lt _ (by decide), by omega⟩
  unfold fE
  rw [show (q * 3 + r) / 3 = q by omega, show (q * 3 + r) % 3 = r by omega, elB_get _ _ _ _ (by omega), elB_get _ _ _ _ (by omega)]
  by_cases e : q = k
  · subst e
    rw [if_pos (Nat.lt_succ_self q)]
    rcases (by omega : r = 0 ∨ r = 1 ∨ r = 2) with rfl | rfl | rfl
    · rw [if_neg (by omega), if_neg (by omega), if_pos (by omega)]; rfl
    · rw [if_neg (by omega), if_pos (by omega)]; rfl
    · rw [if_pos (by omega)]; rfl
  · rw [if_neg (by omega), if_neg (by omega), if_neg (by omega)]
    by_cases h : q < k
    · rw [if_pos h, if_pos (by omega)]
    · rw [if_neg h, if_neg (by omega)]
theorem letter (tl : ByteArray) (k : Nat) (h : k < tl.size) : tl.extract k (k + 1) = S [tl.data.toList[k]!] := by
  apply eq_S
  rw [one_letter tl k h, at_get tl k h]
theorem blank_cells (T : List UInt8) (C : Nat → Int) (i : Nat) (hi : i < 64 * 3) : (Value.agg #[.string ⟨#[]⟩, .int .i32 0, .int .u8 0]).cells[i % 3]? = some (fE (elB T C 0) i) := by
  obtain ⟨q, r, hr, rfl⟩ : ∃ q r, r < 3 ∧ i = q * 3 + r := ⟨i / 3, i % 3, Nat.mod_lt _ (by decide), by omega⟩
  unfold fE
  rw [show (q * 3 + r) / 3 = q by omega, show (q * 3 + r) % 3 = r by omega, elB_get _ _ _ _ (by omega), if_neg (by omega)]
  rcases (by omega : r = 0 ∨ r = 1 ∨ r = 2) with rfl | rfl | rfl <;> rfl
theorem shf_new (h0 tl : ByteArray) (C : Nat → Int) (cs : Array Value) (hcs : cs.size = 64) (hc : ∀ i, i < 64 → cs[i]? = some (cf C i)) (w : World) {W : World}
    (hW : W = ((w.alloc (.cells #[.string h0, .string tl] 26)).alloc (.cells cs 23)).alloc (.cells #[.string ⟨#[]⟩, .string ⟨#[]⟩] 26)) :
    W.heap.size = w.heap.size + 1 + 1 + 1 ∧ Row W w.heap.size 26 2 (mfn h0 tl) ∧ Row W (w.heap.size + 1) 23 64 (cf C) ∧ Row W (w.heap.size + 1 + 1) 26 2 (mfn ⟨#[]⟩ ⟨#[]⟩) ∧ Below w.heap.size w W := by
  subst hW
  have two : ∀ a b : ByteArray, ∀ i, i < 2 → (#[.string a, .string b] : Array Value)[i]? = some (mfn a b i) := fun a b i hi => by
    rcases (by omega : i = 0 ∨ i = 1) with rfl | rfl <;> rfl
  have r1 := Row.new w 26 #[.string h0, .string tl] 2 (mfn h0 tl) rfl (two _ _)
  have r2 := Row.new (w.alloc (.cells #[.string h0, .string tl] 26)) 23 cs 64 (cf C) hcs hc
  have r3 := Row.new ((w.alloc (.cells #[.string h0, .string tl] 26)).alloc (.cells cs 23)) 26 #[.string ⟨#[]⟩, .string ⟨#[]⟩] 2 (mfn ⟨#[]⟩ ⟨#[]⟩) rfl (two _ _)
  refine ⟨by simp, (r1.alloc _).alloc _, ?_, ?_, (((Below.refl _ _).alloc (Nat.le_refl _) _).alloc (by simp) _).alloc (by simp; omega) _⟩
  · have := r2.alloc (.cells #[.string ⟨#[]⟩, .string ⟨#[]⟩] 26)
    simpa using this
  · simpa using r3
theorem gs_below {g n : Nat} {a b : World} (h : Gs g a b) (hg : n ≤ g) : Below n a b := ⟨h.os, h.tape, h.output, by rw [h.size]; exact Nat.le_refl _, fun k hk => h.block k (by omega)⟩
theorem R.below {w0 w : World} {g N n : Nat} {d : Array El} (h : R w0 g N d w) (hg : n ≤ g) : Below n w0 w := ⟨h.grown.os, h.grown.tape, h.grown.output, h.grown.size, fun k hk => h.grown.block k (by have := h.lt; omega) (fun e => by injection e with e; omega)⟩
/-- No digit, or no letter at all. -/
def ND (x : El) : Bool := Op.bytesLess x.ch.toList [48] || !(Op.bytesLess x.ch.toList [57] || x.ch.toList == [57])
theorem elB_small (T : List UInt8) (C : Nat → Int) (k : Nat) : ∀ x ∈ (elB T C k).toList, x.ch.size ≤ 1 := by
  intro x hx
  obtain ⟨j, hj, rfl⟩ := List.getElem_of_mem hx
  rw [Array.length_toList, elB_size] at hj
  have h := elB_get T C k j hj
  rw [getElem!_pos _ j (by rw [elB_size]; exact hj)] at h
  rw [Array.getElem_toList, h]
  split
  · show (S [T[j]!]).size ≤ 1
    rw [S_size]
    exact Nat.le_refl _
  · exact Nat.zero_le _
theorem cat_next (L : List El) (x : El) : cat (L ++ [x]) = cat L ++ x.ch.data.toList := by simp [cat]
theorem take_next (d : Array El) {k : Nat} (h : k < d.size) : d.toList.take (k + 1) = d.toList.take k ++ [d[k]!] := by
  rw [List.take_succ_eq_append_getElem (by rw [Array.length_toList]; exact h), getElem!_pos d k h, Array.getElem_toList]
/-- The minifier m in the making: k elements taken. -/
def ShfRel (d : Array El) (m : Nat) (w : World) (k : Nat) (wx : World) : Prop :=
  ∃ A B : ByteArray, Row wx m 26 2 (mfn A B) ∧ A.data.toList = cat ((d.toList.take k).filter ND) ∧ B.data.toList = cat (d.toList.take k) ∧ A.size ≤ k ∧ B.size ≤ k ∧ Below m w wx
theorem ShfRel.both {d : Array El} {m : Nat} {w : World} {k : Nat} {wx : World} {A B : ByteArray} (hk : k < d.size) (hs : d[k]!.ch.size ≤ 1) (hn : ND d[k]! = true) (hm : Row wx m 26 2 (mfn A B)) (hA : A.data.toList = cat ((d.toList.take k).filter ND)) (hB : B.data.toList = cat (d.toList.take k)) (sA : A.size ≤ k) (sB : B.size ≤ k) (hb : Below m w wx) {o : Obj} {W : World}
    (hW : W = ((wx.setCell ⟨m, 0, none⟩ (.string (S (A.data.toList ++ d[k]!.ch.data.toList)))).setCell ⟨m, 1, none⟩ (.string (S (B.data.toList ++ d[k]!.ch.data.toList)))).alloc o) : ShfRel d m w (k + 1) W := by
  subst hW
  refine ⟨S (A.data.toList ++ d[k]!.ch.data.toList), S (B.data.toList ++ d[k]!.ch.data.toList), (((hm.set 0 _).set 1 _).congr fun j hj => ?_).alloc o, ?_, ?_, ?_, ?_, ((hb.setCell (p := ⟨m, 0, none⟩) (Nat.le_refl _) _).setCell (p := ⟨m, 1, none⟩) (Nat.le_refl _) _).alloc (Nat.le_of_lt ((hm.set 0 _).set 1 _).lt) o⟩
  rotate_left
  · rw [S_data, hA, take_next d hk, List.filter_append, List.filter_cons_of_pos (by simpa using hn), List.filter_nil, cat_next]
  · rw [S_data, hB, take_next d hk, cat_next]
  · rw [S_size, List.length_append, size_len, size_len]; omega
  · rw [S_size, List.length_append, size_len, size_len]; omega
  · rcases (by omega : j = 0 ∨ j = 1) with rfl | rfl <;> rfl
theorem ShfRel.tail {d : Array El} {m : Nat} {w : World} {k : Nat} {wx : World} {A B : ByteArray} (hk : k < d.size) (hs : d[k]!.ch.size ≤ 1) (hn : ND d[k]! = false) (hm : Row wx m 26 2 (mfn A B)) (hA : A.data.toList = cat ((d.toList.take k).filter ND)) (hB : B.data.toList = cat (d.toList.take k)) (sA : A.size ≤ k) (sB : B.size ≤ k) (hb : Below m w wx) {o : Obj} {W : World}
    (hW : W = (wx.setCell ⟨m, 1, none⟩ (.string (S (B.data.toList ++ d[k]!.ch.data.toList)))).alloc o) : ShfRel d m w (k + 1) W := by
  subst hW
  refine ⟨A, S (B.data.toList ++ d[k]!.ch.data.toList), ((hm.set 1 _).congr fun j hj => ?_).alloc o, ?_, ?_, by omega, ?_, (hb.setCell (p := ⟨m, 1, none⟩) (Nat.le_refl _) _).alloc (Nat.le_of_lt (hm.set 1 _).lt) o⟩
  rotate_left
  · rw [hA, take_next d hk, List.filter_append, List.filter_cons_of_neg (by simp [hn]), List.filter_nil, List.append_nil]
  · rw [S_data, hB, take_next d hk, cat_next]
  · rw [S_size, List.length_append, size_len, size_len]; omega
  · rcases (by omega : j = 0 ∨ j = 1) with rfl | rfl <;> rfl
set_option maxHeartbeats 8000000 in
set_option maxRecDepth 100000 in
theorem shf_any (h0 tl : ByteArray) (C : Nat → Int) (cs : Array Value) (hcs : cs.size = 64) (hc : ∀ i, i < 64 → cs[i]? = some (cf C i)) (w : World) (ht : tl.size ≤ 64) :
    Calls Try.prog 7 #[.agg #[.string h0, .string tl], .agg cs] w fun e w' => ∃ H R : ByteArray, e = .returned (.agg #[.string H, .string R]) ∧
      (∃ d' : Array El, PermIn 0 64 (elB tl.data.toList C tl.size) d' ∧ SortedIn ltE 0 64 d' ∧ R.data.toList = cat d'.toList ∧ H.data.toList = cat (d'.toList.filter ND)) ∧ Below w.heap.size w w' := by
  obtain ⟨i0, hi, hz0, hz1, hz2⟩ := info_parts info38
  have HI := Lib.hid (And.intro hi (And.intro hz0 (And.intro hz1 hz2)))
  have HC := Lib.hid (And.intro hcs hc)
  clear hi hz0 hz1 hz2 hcs hc
  go_enter Try.func7, Try.ntmps7
  go_wp2_with (at_make; refine wpList_make_full _ rfl _ _ 36 rfl _ 38 i0 (.agg #[.string ⟨#[]⟩, .int .i32 0, .int .u8 0]) 3 Try.underlying36 HI.out.1 HI.out.2.1 HI.out.2.2.1 _ _ _ _ 64 rfl rfl rfl rfl (by rw [HI.out.2.2.2]; omega) (by unfold maxLen; omega) (Nat.le_refl _) ?_; intro w2 hown hgrow)
  have hNew := shf_new h0 tl C cs HC.out.1 HC.out.2 w rfl
  have r0 : Row w2 (w.heap.size + 1 + 1 + 1) 38 (64 * 3) (fE (elB tl.data.toList C 0)) := by
    have := row_made (size := 3) rfl (by decide) (fE (elB tl.data.toList C 0)) (fun i hi => blank_cells _ _ i hi) hown
    simpa using this
  obtain ⟨hs3, q1, q2, q3, q4⟩ := hNew
  have q1 := q1.grown hgrow (by simp)
  have q2 := q2.grown hgrow (by simp)
  have q3 := q3.grown hgrow (by simp)
  have q4 : Below w.heap.size w w2 := q4.grown hgrow (by simp; omega) (fun k hk => by cases hk)
  obtain ⟨g, hg⟩ : ∃ g, w.heap.size + 1 + 1 + 1 = g := ⟨_, rfl⟩
  rw [hg] at r0
  try rw [hg]
  have hg1 : w.heap.size + 1 + 1 < g := by omega
  have HQ := Lib.hid (And.intro r0 (And.intro q1 (And.intro q2 (And.intro q3 q4))))
  clear hown hgrow q1 q2 q3 q4 r0 hs3 hg
  go_loopw [6] (fun s6 wr => ∃ k : Nat, s6 = .int .i64 k ∧ k ≤ tl.size ∧ Row wr g 38 (64 * 3) (fE (elB tl.data.toList C k)) ∧ Gs g w2 wr) (fun s6 _ => tl.size - (intOf s6).toNat)
  case atStart => exact ⟨0, rfl, by omega, HQ.out.1, Gs.refl _ _⟩
  case round =>
    obtain ⟨k, rfl, hk, hrow, hgs⟩ := hrel
    have q1 := (HQ.out.2.1.gs hgs (by omega)).cell (i := 1) (by omega)
    simp only [mfn] at q1
    by_cases hlt : k < tl.size
    · have q2 := (HQ.out.2.2.1.gs hgs (by omega)).cell (i := k) (by omega)
      obtain ⟨v, hv⟩ : ∃ v, C k = v := ⟨_, rfl⟩
      rw [cf, hv] at q2
      have c0 := hrow.cell (i := k * 3) (by omega)
      have c1 := hrow.cell (i := k * 3 + 1) (by omega)
      have c2 := hrow.cell (i := k * 3 + 2) (by omega)
      have f0 := hrow.frozen (k * 3)
      have f1 := hrow.frozen (k * 3 + 1)
      have f2 := hrow.frozen (k * 3 + 2)
      obtain ⟨u0, hu0⟩ : ∃ u, fE (elB tl.data.toList C k) (k * 3) = u := ⟨_, rfl⟩
      obtain ⟨u1, hu1⟩ : ∃ u, fE (elB tl.data.toList C k) (k * 3 + 1) = u := ⟨_, rfl⟩
      obtain ⟨u2, hu2⟩ : ∃ u, fE (elB tl.data.toList C k) (k * 3 + 2) = u := ⟨_, rfl⟩
      rw [hu0] at c0
      rw [hu1] at c1
      rw [hu2] at c2
      have k64 : k < 64 := by omega
      have k256 : k < 256 := by omega
      have HX := Lib.hid (And.intro hrow (And.intro hgs (And.intro hv (letter tl k hlt))))
      clear hrow hgs hv hu0 hu1 hu2
      go_wp2_with fail
      go_region
      all_goals go_wp2
      refine ⟨⟨k + 1, by go_num, by omega, ?_, ((HX.out.2.1.set _ _).set _ _).set _ _ |>.drew⟩, by simp [intOf]; omega⟩
      refine ((((HX.out.1.set (k * 3) _).set (k * 3 + 1) _).set (k * 3 + 2) _).congr fun m hm => ?_).drewN 1
      rw [HX.out.2.2.2, ← HX.out.2.2.1]
      exact elB_next _ _ _ _ hm
    · obtain rfl : k = tl.size := by omega
      obtain ⟨d, hd⟩ : ∃ d, elB tl.data.toList C tl.size = d := ⟨_, rfl⟩
      rw [hd] at hrow
      have hR : R wr g 64 d wr := ⟨by rw [← hd]; exact elB_size _ _ _, hrow, World.grownBy.refl _ _, hrow.lt⟩
      have HR := Lib.hid (And.intro hR (And.intro hgs hd))
      have hso := sort_any (by decide) hR
      clear hR hgs hrow hk hlt hd
      go_wp2_with fail
      refine hso.mono ?_
      rintro e w3 ⟨d', rfl, hR, hU, hP, hS⟩
      have hsm : ∀ k, k < 64 → d'[k]!.ch.size ≤ 1 := fun k hk => by
        have h1 := elB_small tl.data.toList C tl.size
        rw [HR.out.2.2] at h1
        have h2 := perm_list (d := d) (d' := d') (by rw [HR.out.1.size]; exact hP)
        have h3 : k < d'.size := by rw [hR.size]; exact hk
        refine h1 _ (h2.mem_iff.1 ?_)
        rw [getElem!_pos d' k h3]
        exact Array.getElem_mem_toList h3
      have hgr := hR.grown
      have rR : Row w3 (w.heap.size + 1 + 1) 26 2 (mfn ⟨#[]⟩ ⟨#[]⟩) := (HQ.out.2.2.2.1.gs HR.out.2.1 (by omega)).grown hgr (by simp; omega)
      have HS := Lib.hid (And.intro hR (And.intro hP (And.intro hS (And.intro hsm rR))))
      have hg3 := hR.row.lt
      clear hso hR hU hP hS hsm hgr rR
      go_wp2_with fail
      have hW : ShfRel d' w3.heap.size w3 0 (w3.alloc (.cells #[.string ⟨#[]⟩, .string ⟨#[]⟩] 26)) :=
        ⟨⟨#[]⟩, ⟨#[]⟩, Row.new w3 26 #[.string ⟨#[]⟩, .string ⟨#[]⟩] 2 _ rfl (fun i hi => by rcases (by omega : i = 0 ∨ i = 1) with rfl | rfl <;> rfl), rfl, rfl, Nat.le_refl _, Nat.le_refl _, (Below.refl _ _).alloc (Nat.le_refl _) _⟩
      have HW := Lib.hid hW
      clear hW
      go_loopw [9, 39] (fun _ s39 wx => ∃ k : Nat, s39 = .int .i64 k ∧ k ≤ 64 ∧ ShfRel d' w3.heap.size w3 k wx) (fun _ s39 _ => 64 - (intOf s39).toNat)
      case atStart => exact ⟨0, rfl, by omega, HW.out⟩
      case round =>
        obtain ⟨k, rfl, hk, A, Bt, hm, hA, hB, hsA, hsB, hb⟩ := hrel
        have m0 := hm.cell (i := 0) (by omega)
        have m1 := hm.cell (i := 1) (by omega)
        have mf0 := hm.frozen 0
        have mf1 := hm.frozen 1
        have hml := hm.lt
        simp only [mfn] at m0 m1
        by_cases hlt : k < 64
        · have hrow := HS.out.1.row.below hb hg3
          have hgx := hrow.lt
          have c0 := hrow.cell (i := k * 3) (by omega)
          have c1 := hrow.cell (i := k * 3 + 1) (by omega)
          have c2 := hrow.cell (i := k * 3 + 2) (by omega)
          rw [fE0] at c0
          rw [fE1] at c1
          rw [fE2] at c2
          have hch := HS.out.2.2.2.1 k hlt
          obtain ⟨x, hx⟩ : ∃ x, d'[k]! = x := ⟨_, rfl⟩
          rw [hx] at c0 c1 c2 hch
          have s1 := run_add_S (P := Try.prog) A x.ch (by omega)
          have s2 := run_add_S (P := Try.prog) Bt x.ch (by omega)
          have HX := Lib.hid (And.intro hm (And.intro hA (And.intro hB (And.intro hb (And.intro hch hx)))))
          clear hm hA hB hb hch hx hrow
          obtain ⟨ch, ct, ix⟩ := x
          simp only at c0 c1 c2 s1 s2
          cases hb1 : Op.bytesLess ch.toList [48] with
          | true =>
            have HB1 := Lib.hid hb1
            go_wp2_with fail
            go_roundw
            case rel => exact ⟨k + 1, by go_num, by omega, ShfRel.both (d := d') (k := k) (by rw [HS.out.1.size]; exact hlt) (HS.out.2.2.2.1 k hlt) (by rw [HX.out.2.2.2.2.2]; unfold ND; simp only [HB1.out, Bool.true_or]) HX.out.1 HX.out.2.1 HX.out.2.2.1 hsA hsB HX.out.2.2.2.1 (by rw [HX.out.2.2.2.2.2])⟩
            case measure => simp [intOf]; omega
          | false =>
            have HB1 := Lib.hid hb1
            cases hb2 : Op.bytesLess ch.toList [57] with
            | true =>
              have HB2 := Lib.hid hb2
              go_wp2_with fail
              go_roundw
              case rel => exact ⟨k + 1, by go_num, by omega, ShfRel.tail (d := d') (k := k) (by rw [HS.out.1.size]; exact hlt) (HS.out.2.2.2.1 k hlt) (by rw [HX.out.2.2.2.2.2]; unfold ND; simp only [HB1.out, HB2.out, Bool.true_or, Bool.not_true, Bool.or_false]) HX.out.1 HX.out.2.1 HX.out.2.2.1 hsA hsB HX.out.2.2.2.1 (by rw [HX.out.2.2.2.2.2])⟩
              case measure => simp [intOf]; omega
            | false =>
              have HB2 := Lib.hid hb2
              cases hb3 : (ch.toList == [57]) with
              | true =>
                have HB3 := Lib.hid hb3
                go_wp2_with fail
                go_roundw
                case rel => exact ⟨k + 1, by go_num, by omega, ShfRel.tail (d := d') (k := k) (by rw [HS.out.1.size]; exact hlt) (HS.out.2.2.2.1 k hlt) (by rw [HX.out.2.2.2.2.2]; unfold ND; simp only [HB1.out, HB2.out, HB3.out, Bool.or_true, Bool.not_true, Bool.or_false]) HX.out.1 HX.out.2.1 HX.out.2.2.1 hsA hsB HX.out.2.2.2.1 (by rw [HX.out.2.2.2.2.2])⟩
                case measure => simp [intOf]; omega
              | false =>
                have HB3 := Lib.hid hb3
                go_wp2_with fail
                go_roundw
                case rel => exact ⟨k + 1, by go_num, by omega, ShfRel.both (d := d') (k := k) (by rw [HS.out.1.size]; exact hlt) (HS.out.2.2.2.1 k hlt) (by rw [HX.out.2.2.2.2.2]; unfold ND; simp only [HB1.out, HB2.out, HB3.out, Bool.or_false, Bool.not_false, Bool.or_true]) HX.out.1 HX.out.2.1 HX.out.2.2.1 hsA hsB HX.out.2.2.2.1 (by rw [HX.out.2.2.2.2.2])⟩
                case measure => simp [intOf]; omega
        · obtain rfl : k = 64 := by omega
          have rR := HS.out.2.2.2.2.below hb (by omega)
          have r0 := rR.cell (i := 0) (by omega)
          have r1 := rR.cell (i := 1) (by omega)
          have rf0 := rR.frozen 0
          have rf1 := rR.frozen 1
          have rl := rR.lt
          simp only [mfn] at r0 r1
          have rS := ((rR.set 0 (.string A)).set 1 (.string Bt))
          have w0 : _ = some (Value.string A) := rS.cell (i := 0) (by omega)
          have w1 : _ = some (Value.string Bt) := rS.cell (i := 1) (by omega)
          have HX := Lib.hid (And.intro hm (And.intro hA (And.intro hB hb)))
          have HZ := Lib.hid (And.intro w0 w1)
          clear hm hA hB hb rR rS w0 w1
          go_wp2_with fail
          have w0 := HZ.out.1
          have w1 := HZ.out.2
          obtain ⟨W, hW⟩ : ∃ W, (wr.setCell ⟨w.heap.size + 1 + 1, 0, none⟩ (.string A)).setCell ⟨w.heap.size + 1 + 1, 1, none⟩ (.string Bt) = W := ⟨_, rfl⟩
          rw [hW] at w0 w1 ⊢
          have HV := Lib.hid hW
          clear hW
          have hB2 : Below w.heap.size w w3 := ((HQ.out.2.2.2.2.trans (gs_below HR.out.2.1 (by omega))).trans (R.below HS.out.1 (by omega)))
          have hT : d'.toList.take 64 = d'.toList := List.take_of_length_le (by rw [Array.length_toList, HS.out.1.size]; exact Nat.le_refl _)
          refine bodyPost_ret (v := .agg #[.string A, .string Bt]) (by simp [results, Try.results7, go_sem, w0, w1]) rfl ⟨A, Bt, rfl, ⟨d', by rw [HR.out.2.2]; exact HS.out.2.1, HS.out.2.2.1, by rw [HX.out.2.2.1, hT], by rw [HX.out.2.1, hT]⟩, ?_⟩
          rw [← HV.out]
          exact ((hB2.trans (HX.out.2.2.2.mono (by omega))).setCell (p := ⟨w.heap.size + 1 + 1, 0, none⟩) (by show w.heap.size ≤ w.heap.size + 1 + 1; omega) _).setCell (p := ⟨w.heap.size + 1 + 1, 1, none⟩) (by show w.heap.size ≤ w.heap.size + 1 + 1; omega) _
end Go.Proofs.Ytmnoffiblcnjpaa
