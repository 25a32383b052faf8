/-
  The contract of broadcastBuildResult after a build without errors; conditions: those that it names.
-/
import Derived.Test.YtglchiomdojjoaaGreatFmtSrs
import Derived.Test.YtglchiomdojjoaaGreatFmtQuo
import Derived.Test.YtglchiomdojjoaaGreatFmtWrt
namespace Go.Proofs.YtglchiomdojjoaaGreatFmt
open Go.RowKit Go.Conc Go.Conc.Locks Go.Maps Go.Lib Go.WideMaps Go.Extern.Stop Go.Stop Go.Extern Go.MuLone

theorem WpN.seqK {P : Program} {x y : Code} {Q : Exit → Act → World → Prop} {a : Act} {w : World} (h : ∀ (K : Act → World → Prop) (Q' : Exit → Act → World → Prop), (∀ a' w', WpN P y Q a' w' → K a' w') → x.wp P (Exit.then K Q') a w) : WpN P (.seq x y) Q a w :=
  WpN.seq (WpN.of (h (WpN P y Q) Q fun _ _ q => q))
/-- The handler, the two maps and what is known of the names. -/
structure Cast (n : Nat) (pub : ByteArray) (m1 N1 : Nat) (ss hs : List ByteArray) (m2 N2 : Nat) (ts gs : List ByteArray) (w : World) : Prop where
  ha : HA n pub m1 #[] w
  lk : Lk 0 n w
  m1 : MapS m1 N1 (bmap (kvs ss hs)) w
  m2 : MapS m2 N2 (bmap (kvs ts gs)) w
  e1 : ss.length = hs.length
  e3 : ts.length = gs.length
  b1 : ss.length ≤ 4096
  b3 : ts.length ≤ 4096
  d1 : ss.Nodup
  d3 : ts.Nodup
  n1 : ∀ s ∈ ss, NameS s
  n3 : ∀ s ∈ ts, NameS s
  z1 : ∀ s ∈ ss, s.size ≤ 1048576
  z3 : ∀ s ∈ ts, s.size ≤ 1048576
  pc : AllC PbC pub
  pz : pub.size ≤ 1048576
open Classical in
noncomputable def sentB (pub : ByteArray) (ss hs ts gs : List ByteArray) : Array Value := if Still ss hs ts gs then #[] else #[.agg #[.string ⟨#[99, 104, 97, 110, 103, 101]⟩, .string (S (diffB pub ss hs ts gs))]]
def CastPost (n : Nat) (pub : ByteArray) (ss hs : List ByteArray) (m2 : Nat) (ts gs : List ByteArray) (w : World) (e : Ending) (w' : World) : Prop :=
  e = .returned (.tuple #[]) ∧ HA n pub m2 (sentB pub ss hs ts gs) w' ∧ Lk 0 n w' ∧ Bk n w w'
/-- The handler locked, the maps, the box that holds the handler. -/
structure Held (n : Nat) (pub : ByteArray) (m : Nat) (m1 N1 : Nat) (ss hs : List ByteArray) (m2 N2 : Nat) (ts gs : List ByteArray) (bx : Nat) (w W : World) : Prop where
  ha : HA n pub m #[] W
  lk : Lk 1 n W
  m1 : MapS m1 N1 (bmap (kvs ss hs)) W
  m2 : MapS m2 N2 (bmap (kvs ts gs)) W
  bk : Bk n w W
  bx : W.heap[bx]? = some (.cells #[.pointer (some ⟨n + 2, 0, none⟩)] 26 (0, 0))
theorem Held.up {n : Nat} {pub : ByteArray} {m m1 N1 : Nat} {ss hs : List ByteArray} {m2 N2 : Nat} {ts gs : List ByteArray} {bx : Nat} {w W W' : World} (h : Held n pub m m1 N1 ss hs m2 N2 ts gs bx w W) (k : Below W.heap.size W W') : Held n pub m m1 N1 ss hs m2 N2 ts gs bx w W' :=
  ⟨h.ha.up k, h.lk.up k, h.m1.up k, h.m2.up k, h.bk.trans (Bk.of n k), (k.block bx (Array.getElem?_eq_some_iff.1 h.bx).1).trans h.bx⟩
theorem Held.tape {n : Nat} {pub : ByteArray} {m m1 N1 : Nat} {ss hs : List ByteArray} {m2 N2 : Nat} {ts gs : List ByteArray} {bx : Nat} {w W : World} {F : Interp} (h : Held n pub m m1 N1 ss hs m2 N2 ts gs bx w W) (hF : F.answers w.tape) : F.answers W.tape := by rw [h.bk.tape]; exact hF
theorem ranges_far {b r N : Nat} {D : DataW Unit} {left : Lit → Bool} {cnt : Nat} {w : World} (h : w.ranges Tryz.prog 9 (plainElem Tryz.prog 9) b r N D left cnt) : (∀ cs fz, w.heap[b]? ≠ some (.cells cs 9 fz)) ∧ ∀ cs fz, w.heap[r]? ≠ some (.cells cs 9 fz) := by
  obtain ⟨es, clock, since, seen, c0, hb, _, _, _, hr, _⟩ := h
  exact ⟨fun cs fz e => (by rw [hb] at e; cases e), fun cs fz e => (by rw [hr] at e; cases e)⟩
theorem ranges_iter {b r N : Nat} {D : DataW Unit} {left : Lit → Bool} {cnt : Nat} {w : World} (h : w.ranges Tryz.prog 9 (plainElem Tryz.prog 9) b r N D left cnt) : ∀ cs t fz, w.heap[r]? ≠ some (.cells cs t fz) := by
  obtain ⟨es, clock, since, seen, c0, hb, _, _, _, hr, _⟩ := h
  exact fun cs t fz e => (by rw [hr] at e; cases e)
theorem str_eq {a b : ByteArray} (h : a.data.toList = b.data.toList) : a = b := by rw [← Lib.mk_data a, ← Lib.mk_data b, h]
theorem lit_inj {a b : ByteArray} (h : (DataW.lit (Lit.string a.data.toList) : DataW Unit) = .lit (.string b.data.toList)) : a = b := by
  injection h with h
  injection h with h
  exact str_eq h
theorem has_yes {ss hs : List ByteArray} (hl : ss.length = hs.length) {t : ByteArray} (ht : t ∈ ss) : Maps.has (bmap (kvs ss hs)) (.string (outK t).data.toList) = true := (has_name hl).2 ⟨t, ht, rfl⟩
theorem has_no {ss hs : List ByteArray} (hl : ss.length = hs.length) {t : ByteArray} (ht : t ∉ ss) : Maps.has (bmap (kvs ss hs)) (.string (outK t).data.toList) = false := by
  cases h : Maps.has (bmap (kvs ss hs)) (.string (outK t).data.toList) with
  | false => rfl
  | true =>
    obtain ⟨s, hs1, e⟩ := (has_name hl).1 h
    have := keyN_inj (s := t) (t := s) e
    exact absurd (this ▸ hs1) ht
theorem url_pb {pub t : ByteArray} (hp : AllC PbC pub) (hn : NameS t) : AllC PbC (S (url pub t)) ∧ 0 < (url pub t).length := by
  have h0 := hn.nameL.h0
  unfold url urlL
  refine ⟨?_, ?_⟩
  · intro c hc
    rw [S_data, List.mem_append, List.mem_append] at hc
    rcases hc with (hc | hc) | hc
    · exact hp c hc
    · unfold slashL at hc
      split at hc
      · simp at hc
      · rw [List.mem_singleton] at hc
        exact .inr (.inl (by rw [hc]; rfl))
    · exact .inl (hn.1 c hc)
  · have := List.length_pos_iff.2 h0
    rw [List.length_append]
    omega
theorem urls_ok {pub : ByteArray} {P : ByteArray → Bool} {ts : List ByteArray} (hp : AllC PbC pub) (hz : pub.size ≤ 1048576) (hn : ∀ t ∈ ts, NameS t) (ht : ∀ t ∈ ts, t.size ≤ 1048576) : ∀ u ∈ urls pub P ts, AllC PbC (S u) ∧ 0 < u.length ∧ u.length ≤ 2097153 := by
  intro u hu
  refine ⟨?_, ?_, urls_each hz ht u hu⟩
  all_goals
    unfold urls at hu
    obtain ⟨t, h1, rfl⟩ := List.mem_map.1 hu
    have := url_pb hp (hn t (List.mem_filter.1 h1).1)
    first | exact this.1 | exact this.2
theorem bldb_lt {B b : Nat} {l : Bs} {w : World} (h : Bld B b l w) : b < w.heap.size := h.elim (fun x => x.lt) (fun x => x.lt)
theorem RW.row {B n p : Nat} {o : Option Addr} {l : List Bs} {w : World} (h : RW B (.slice o n p) l w) : InRow w o n p (strs l) ∧ n = l.length := by
  obtain ⟨ao, cp, e, hI⟩ := h.inRow
  obtain ⟨rfl, e2, rfl⟩ := Value.slice.inj e
  exact ⟨by rw [e2]; exact hI, e2⟩
theorem sent_facts {n : Nat} {pub : ByteArray} {m m1 N1 : Nat} {ss hs : List ByteArray} {m2 N2 : Nat} {ts gs : List ByteArray} {bx : Nat} {w W : World} (v : Value) (h : Held n pub m m1 N1 ss hs m2 N2 ts gs bx w W) {s r : Nat} (hc : W.heap[n]? = some (.chan 1 #[] false s r false)) :
    HA n pub m #[v] (W.setChan n 1 (#[].push v) false (s + 1) r false) ∧ Lk 1 n (W.setChan n 1 (#[].push v) false (s + 1) r false) ∧ Bk n w (W.setChan n 1 (#[].push v) false (s + 1) r false) ∧ (W.setChan n 1 (#[].push v) false (s + 1) r false).heap[bx]? = some (.cells #[.pointer (some ⟨n + 2, 0, none⟩)] 26 (0, 0)) := by
  have hk := Bk.chan n W 1 (#[].push v) false (s + 1) r false
  have ho : ∀ k, k ≠ n → (W.setChan n 1 (#[].push v) false (s + 1) r false).heap[k]? = W.heap[k]? := fun k hk => by
    simp only [World.setChan]
    rw [Array.getElem?_setIfInBounds_ne (fun e => hk e.symm)]
  have hnb : bx ≠ n := by
    rintro rfl
    have := h.bx
    rw [hc] at this
    cases this
  obtain ⟨⟨cs, a, b⟩, c, _⟩ := h.ha
  refine ⟨⟨⟨cs, by rw [ho _ (by omega)]; exact a, b⟩, by rw [ho _ (by omega)]; exact c, s + 1, r, ?_⟩, h.lk.keep (ho _ (by omega)), h.bk.trans hk, by rw [ho _ hnb]; exact h.bx⟩
  rw [heap_setChan _ _ _ _ _ _ _ _ (Array.getElem?_eq_some_iff.1 hc).1]
  rfl
set_option maxRecDepth 10000 in
theorem build_ev (TX : ByteArray) (a : Act) (w : World) (o : Oper) (ho : o.op = Op.build 77 #[(0, Operand.const (.string ⟨#[99, 104, 97, 110, 103, 101]⟩)), (1, Operand.tmp 192)]) (h : a.tmps[192]?.getD undef = .string TX) : (execOp a.eval o).run Tryz.prog w = .ok (.value (.agg #[.string ⟨#[99, 104, 97, 110, 103, 101]⟩, .string TX])) w := by
  simp [go_sem, execOp, ho, h]
theorem tel_in {ss hs ts gs : List ByteArray} {t : ByteArray} (h : t ∈ ss) : addP ss t = false ∧ (updP ss hs ts gs t = true ↔ hOf ss hs t ≠ hOf ts gs t) := by
  unfold addP updP
  simp [h]
theorem Held.cell {n : Nat} {pub : ByteArray} {m m1 N1 : Nat} {ss hs : List ByteArray} {m2 N2 : Nat} {ts gs : List ByteArray} {bx : Nat} {w W : World} (h : Held n pub m m1 N1 ss hs m2 N2 ts gs bx w W) : W.cell? ⟨bx, 0, none⟩ = some (.pointer (some ⟨n + 2, 0, none⟩)) ∧ bx < W.heap.size :=
  ⟨Lib.cell_of_heap h.bx 0, (Array.getElem?_eq_some_iff.1 h.bx).1⟩
set_option maxHeartbeats 16000000 in
set_option maxRecDepth 100000 in
theorem cast_any (F : Interp) (n m1 N1 m2 N2 : Nat) (pub : ByteArray) (ss hs ts gs : List ByteArray) (w : World) (hF : F.answers w.tape) (hS : Says F) (h : Cast n pub m1 N1 ss hs m2 N2 ts gs w) :
    Calls Tryz.prog 19 #[.pointer (some ⟨n + 2, 0, none⟩), .agg #[.slice none 0 0, .slice none 0 0, .slice none 0 0, .string ⟨#[]⟩, .map none], .map (some m2)] w (CastPost n pub ss hs m2 ts gs w) := by
  obtain ⟨i0, hi, hz0, hz1, hz2⟩ := info_parts info9
  have HI := Lib.hid (And.intro hi (And.intro hz0 (And.intro hz1 hz2)))
  have HC := Lib.hid h
  have HF := Lib.hid (And.intro hF hS)
  clear hi hz0 hz1 hz2 h hF hS
  refine calls_of_wpN Tryz.func19 rfl ?_
  simp only [Tryz.ntmps19, List.size_toArray, List.length_cons, List.length_nil, Nat.reduceAdd, Nat.reduceSub, Array.replicate_succ,
     Array.replicate_zero, List.push_toArray, List.append_toArray, List.nil_append, List.cons_append]
  refine WpN.seqK fun K Q' hK => ?_
  go_wp2_with fail
  obtain ⟨W, hW⟩ : ∃ W, (w.alloc (.cells #[.pointer (some ⟨n + 2, 0, none⟩)] 26)).alloc (.cells #[.slice none 0 0, .slice none 0 0, .slice none 0 0, .string ⟨#[]⟩, .map none] 35) = W := ⟨_, rfl⟩
  have hB : Below w.heap.size w W := by rw [← hW]; exact ((Below.refl _ _).alloc (Nat.le_refl _) _).alloc (by simp) _
  have hb3 : W.heap[w.heap.size]? = some (.cells #[.pointer (some ⟨n + 2, 0, none⟩)] 26 (0, 0)) := by
    rw [← hW, Below.heap_alloc _ _ _ (by simp)]
    exact heap_alloc_new w _
  have hb4 : W.heap[w.heap.size + 1]? = some (.cells #[.slice none 0 0, .slice none 0 0, .slice none 0 0, .string ⟨#[]⟩, .map none] 35 (0, 0)) := by
    rw [← hW]
    have := heap_alloc_new (w.alloc (.cells #[.pointer (some ⟨n + 2, 0, none⟩)] 26)) (.cells #[.slice none 0 0, .slice none 0 0, .slice none 0 0, .string ⟨#[]⟩, .map none] 35)
    simpa using this
  rw [hW]
  clear hW
  obtain ⟨bx, hbx⟩ : ∃ bx, w.heap.size = bx := ⟨_, rfl⟩
  rw [hbx] at hb3 hb4 ⊢
  have hH : Held n pub m1 m1 N1 ss hs m2 N2 ts gs bx w (W.setCell ⟨n + 2, 17, none⟩ (.int .i32 1)) := by
    have ha := HC.out.ha.up hB
    have hap1 := (HC.out.m1.up hB).apart ha
    have hap2 := (HC.out.m2.up hB).apart ha
    have hnl := HC.out.ha.lt
    exact ⟨ha.set17 1, (HC.out.lk.up hB).set 1, (HC.out.m1.up hB).bk (Bk.set n 17 W _) hap1.1 hap1.2.2, (HC.out.m2.up hB).bk (Bk.set n 17 W _) hap2.1 hap2.2.2, (Bk.of n hB).trans (Bk.set n 17 W _), by rw [setf (by omega)]; exact hb3⟩
  have hb5 : (W.setCell ⟨n + 2, 17, none⟩ (.int .i32 1)).heap[bx + 1]? = some (.cells #[.slice none 0 0, .slice none 0 0, .slice none 0 0, .string ⟨#[]⟩, .map none] 35 (0, 0)) := by
    have hnl := HC.out.ha.lt
    rw [setf (by omega)]
    exact hb4
  have HLk := Lib.hid (lock_free Tryz.muLib ⟨n + 2, 17, none⟩ W (HC.out.lk.up hB).cell.1 (HC.out.lk.up hB).cell.2)
  have c3 : W.cell? ⟨bx, 0, none⟩ = some (.pointer (some ⟨n + 2, 0, none⟩)) := Lib.cell_of_heap hb3 0
  have HH := Lib.hid (And.intro hH hb5)
  clear hB hb3 hb4 hH hb5
  refine WpN.seqK fun K Q' hK => ?_
  go_wp2_with fail
  refine HLk.out.mono ?_
  rintro e w' ⟨rfl, hw⟩
  have hw2 := hw.symm
  clear hw c3 HLk
  subst hw2
  obtain ⟨W1, hW1⟩ : ∃ W1, W.setCell ⟨n + 2, 17, none⟩ (.int .i32 1) = W1 := ⟨_, rfl⟩
  rw [hW1] at HH ⊢
  clear hW1
  go_wp2_with fail
  refine WpN.seqK fun K Q' hK => ?_
  go_wp2_with fail
  refine WpN.seqK fun K Q' hK => ?_
  go_wp2_with fail
  refine WpN.seqK fun K Q' hK => ?_
  go_wp2_with fail
  refine WpN.seqK fun K Q' hK => ?_
  go_wp2_with fail
  refine WpN.seqK fun K Q' hK => ?_
  have c3 := HH.out.1.cell.1
  have c4 : W1.cell? ⟨bx + 1, 0, none⟩ = some (.slice none 0 0) := Lib.cell_of_heap HH.out.2 0
  have c16 := HH.out.1.ha.cells.2.2.2.2.1
  have f16 := HH.out.1.ha.frozen 16
  have HW2 : Held n pub m2 m1 N1 ss hs m2 N2 ts gs bx w (W1.setCell ⟨n + 2, 16, none⟩ (.map (some m2))) := by
    have hap1 := HH.out.1.m1.apart HH.out.1.ha
    have hap2 := HH.out.1.m2.apart HH.out.1.ha
    have hnl := HC.out.ha.lt
    refine ⟨HH.out.1.ha.set16 m2, HH.out.1.lk.set16 _, HH.out.1.m1.bk (Bk.set n 16 W1 _) hap1.1 hap1.2.2, HH.out.1.m2.bk (Bk.set n 16 W1 _) hap2.1 hap2.2.2, HH.out.1.bk.trans (Bk.set n 16 W1 _), ?_⟩
    have hb := HH.out.1.bx
    have hnb : bx ≠ n + 2 := by
      rintro rfl
      obtain ⟨cs, a, _⟩ := HH.out.1.lk
      rw [a] at hb
      cases hb
    rw [setf hnb]
    exact hb
  obtain ⟨W2, hW2⟩ : ∃ W2, W1.setCell ⟨n + 2, 16, none⟩ (.map (some m2)) = W2 := ⟨_, rfl⟩
  rw [hW2] at HW2
  obtain ⟨B, hB⟩ : ∃ B, B = W2.heap.size := ⟨_, rfl⟩
  have HK2 := Lib.hid HW2
  have HE2 := Lib.hid hW2
  have HBB := Lib.hid hB
  clear HW2 hW2 hB
  have HHB := Lib.hid (fun wx (hb : Below B W2 wx) => HK2.out.up (by rw [← HBB.out]; exact hb))
  go_cut [6, 7, 8] from 10 to 115 (fun s6 s7 s8 wc => ∃ (la lr lu : List Bs), la.Perm (addU pub ss ts) ∧ lr.Perm (addU pub ts ss) ∧ lu.Perm (updU pub ss hs ts gs) ∧ T3 B s6 la s7 lr s8 lu wc ∧ Held n pub m2 m1 N1 ss hs m2 N2 ts gs bx w wc ∧ Below B W2 wc)
  case first =>
    go_upto_region 9 with fail
    rw [HE2.out]
    clear c3 c4 c16 f16 HH HE2
    go_upto_block 0 with (first
      | (at_range; refine wpList_range_own _ rfl _ 28 rfl 9 9 law9 Tryz.underlying28 _ m2 N2 _ rfl HK2.out.m2 ?_; intro w0 hrg0 hg0 hs0))
    go_frame
    obtain ⟨rc, hrc⟩ : ∃ r, r = W2.heap.size := ⟨_, rfl⟩
    rw [← hrc] at hrg0 ⊢
    have hBw : Below B W2 w0 := by rw [HBB.out]; exact ⟨hg0.os, hg0.tape, hg0.output, hg0.size, fun k hk => hg0.block k hk (by simp)⟩
    have hszD : Maps.size (bmap (kvs ts gs)) = ts.length := kvs_size (HC.out.m2.canon law9) HC.out.d3 HC.out.e3
    rw [hszD] at hrg0
    have HG0 := Lib.hid (And.intro hrg0 hBw)
    have hrcB : rc ≥ B := by rw [HBB.out, hrc]; exact Nat.le_refl _
    clear hs0 hg0 hrc hrg0 hBw hszD
    go_cut [6, 8] from 11 to 90 (fun v6 v8 wr => ∃ dn : List ByteArray, dn.Perm ts ∧ T3 B v6 (urls pub (addP ss) dn) (.slice none 0 0) [] v8 (urls pub (updP ss hs ts gs) dn) wr ∧ Below B W2 wr)
    case first =>
      go_wp2_with fail
      go_loopw [6, 8] (fun v6 v8 wr => ∃ (left : Lit → Bool) (cnt : Nat) (dn : List ByteArray), wr.ranges Tryz.prog 9 (plainElem Tryz.prog 9) m2 rc N2 (bmap (kvs ts gs)) left cnt ∧ dn.length + cnt ≤ ts.length ∧ Seen ts gs left dn ∧ T3 B v6 (urls pub (addP ss) dn) (.slice none 0 0) [] v8 (urls pub (updP ss hs ts gs) dn) wr ∧ Below B W2 wr) (fun _ _ wr => wr.rangeLeft m2 rc)
      case atStart => exact ⟨_, _, [], HG0.out.1, by simp, Seen.start HC.out.e3, T3.nil _ _, HG0.out.2⟩
      case round =>
        obtain ⟨left, cnt, dn, hrg, hcs, hsn, hT, hBw⟩ := hrel
        have hnx := HC.out.b1
        have hnx3 := HC.out.b3
        have hm1 := hrg.left_eq
        have hsB : B ≤ wr.heap.size := by have := hBw.size; rw [← HBB.out] at this; exact this
        have HT := Lib.hid (And.intro hT (And.intro hBw hsn))
        have hitr := ranges_iter hrg
        clear hT hBw hsn
        go_wp2_with (first
          | (at_next; refine wpList_next_ranges _ rfl _ rfl 9 law9 (plainElem Tryz.prog 9) Value.string Value.string kInv vInv m2 rc N2 _ _ _ rfl hrg ?_ ?_))
        · intro hc0 hl0
          have HZ := Lib.hid hl0
          clear hl0 hrg
          go_wp2_with fail
          go_meet
          exact ⟨dn, HT.out.2.2.done HC.out.d3 HZ.out, HT.out.1, HT.out.2.1⟩
        · intro x c kl yd yp w2 cnt2 hkey hlk hv hat hrg2 hlt hg2 hs2 hen
          obtain ⟨hkx, hxs⟩ := key_x hkey
          obtain ⟨t, ht, hkt, hsn2⟩ := HT.out.2.2.next HC.out.e3 hlk
          obtain rfl : x = outK t := str_eq (by rw [hkx] at hkt; unfold keyN at hkt; injection hkt)
          have hcv : hOf ts gs t = c := lit_inj ((look_at HC.out.d3 HC.out.e3 ht (.map [])).symm.trans (by rw [← hkt]; exact (hat _).trans (val_c hv)))
          have hB2 : Below B W2 w2 := HT.out.2.1.grown hg2 hsB (fun k hk => by cases hk; exact hrcB)
          have HT2 := Lib.hid (And.intro (HT.out.1.kept hg2 (fun j hj => by cases hj; exact hitr)) hB2)
          have HU := Lib.hid (fun wx (hb : Below B W2 wx) => url_any F n m2 bx pub t #[] wx ((HHB.out wx hb).tape HF.out.1) HF.out.2 (HHB.out wx hb).ha (HHB.out wx hb).cell.1 (HHB.out wx hb).cell.2 (HC.out.n3 t ht) (HC.out.z3 t ht) HC.out.pz)
          have HT3 := Lib.hid hsn2
          obtain ⟨c1, hrun, hat1⟩ := look_str (s := outK t) (HHB.out w2 hB2).m1 hxs
          have hm2 := hrg2.left_eq
          have hdl : (urls pub (addP ss) dn).length ≤ 4096 := by have := urls_le pub (addP ss) dn; omega
          have hdu : (urls pub (updP ss hs ts gs) dn).length ≤ 4096 := by have := urls_le pub (updP ss hs ts gs) dn; omega
          have hsz2 : B ≤ w2.heap.size := by omega
          have HV := Lib.hid (And.intro hcv ht)
          clear hkey hlk hv hat hsn2 hg2 hkt hkx hcv ht hrg hm2
          by_cases hts : t ∈ ss
          · rw [has_yes HC.out.e1 hts] at hrun
            have hP := tel_in (hs := hs) (ts := ts) (gs := gs) hts
            have hc1 : hOf ss hs t = c1 := lit_inj ((look_at HC.out.d1 HC.out.e1 hts (.lit (.string []))).symm.trans hat1)
            rw [hc1, HV.out.1] at hP
            have HP := Lib.hid hP
            clear hP hc1 hat1 hts
            cases hne : (c.toList == c1.toList) with
            | true =>
              have HE := Lib.hid (bytes_eq hne)
              have HR := Lib.hid hrg2
              clear hrg2
              go_wp2_with fail
              go_roundw
              case rel =>
                refine ⟨_, cnt2, dn ++ [t], HR.out, by rw [List.length_append, List.length_singleton]; omega, HT3.out, ?_, HT2.out.2⟩
                rw [urls_snoc_no HP.out.1, urls_snoc_no (by have := HP.out.2; rw [HE.out] at this; simpa using this)]
                exact HT2.out.1
              case measure => rw [HR.out.left_eq, hm1]; exact hlt
            | false =>
              have HE := Lib.hid (bytes_ne hne)
              go_wp2_with fail
              refine (HU.out _ hB2).mono ?_
              rintro e w3 ⟨rfl, hB3⟩
              have hs3 := hB3.size
              have hrg3 := hrg2.kept (grown_of_below hB3) (by simp) (by simp)
              have HA3 := Lib.hid (And.intro (HT2.out.1.up hB3) (HT2.out.2.trans (hB3.mono (by omega))))
              have HR3 := Lib.hid (And.intro hrg3 hrg3)
              clear hB3 hrg3
              go_wp2_with (at_builtin; refine wpList_append_own_at _ rfl _ _ 22 rfl B 9 i0 (.string ⟨#[]⟩) 1 16 Tryz.underlying22 HI.out.1 HI.out.2.1 HI.out.2.2.1 HI.out.2.2.2 rfl (by decide) _ _ _ rfl (HA3.out.1.alloc _).r3 ⟨w3.heap.size, 0, none⟩ 1 1 [.string (S (url pub t))] rfl rfl (cell_one_new _ _ _) (by simp [Value.oneCell']) (by unfold maxLen; omega) (by omega) (by simp; omega) ?_; intro v' w5 hown5 hg5 hnil5 hat5; go_frame)
              have HA5 := Lib.hid (And.intro hown5 (And.intro hg5 hat5))
              have hfar := ranges_far (HR3.out.1.alloc (.cells #[.string (S (url pub t))] 9))
              have hrg5 := (HR3.out.1.alloc (.cells #[.string (S (url pub t))] 9)).kept hg5 ((HA3.out.1.alloc _).r3.far hfar.1) ((HA3.out.1.alloc _).r3.far hfar.2)
              have hm5 := hrg5.left_eq
              have HR5 := Lib.hid hrg5
              have hBw5 : Below B W2 w5 := below_row (HA3.out.2.alloc (by omega) _) (by simp; omega) (HA3.out.1.alloc _).r3 HA5.out.2.1
              have HB5 := Lib.hid hBw5
              clear hown5 hg5 hat5 hfar hrg5 hBw5
              go_wp2_with fail
              go_roundw
              case rel =>
                refine ⟨_, cnt2, dn ++ [t], HR5.out, by rw [List.length_append, List.length_singleton]; omega, HT3.out, ?_, HB5.out⟩
                rw [urls_snoc_no HP.out.1, urls_snoc_yes (HP.out.2.2 (fun e => HE.out e.symm))]
                exact (T3.app (HA3.out.1.alloc _).rot.rot HA5.out.1 HA5.out.2.1 HA5.out.2.2).rot
              case measure => rw [hm5, hm1]; exact hlt
          · rw [has_no HC.out.e1 hts] at hrun
            have HP := Lib.hid (tel_no hts)
            clear hts hat1
            go_wp2_with fail
            refine (HU.out _ hB2).mono ?_
            rintro e w3 ⟨rfl, hB3⟩
            have hs3 := hB3.size
            have hrg3 := hrg2.kept (grown_of_below hB3) (by simp) (by simp)
            have HA3 := Lib.hid (And.intro (HT2.out.1.up hB3) (HT2.out.2.trans (hB3.mono (by omega))))
            have HR3 := Lib.hid (And.intro hrg3 hrg3)
            clear hB3 hrg3
            go_wp2_with (at_builtin; refine wpList_append_own_at _ rfl _ _ 22 rfl B 9 i0 (.string ⟨#[]⟩) 1 16 Tryz.underlying22 HI.out.1 HI.out.2.1 HI.out.2.2.1 HI.out.2.2.2 rfl (by decide) _ _ _ rfl (HA3.out.1.alloc _).r1 ⟨w3.heap.size, 0, none⟩ 1 1 [.string (S (url pub t))] rfl rfl (cell_one_new _ _ _) (by simp [Value.oneCell']) (by unfold maxLen; omega) (by omega) (by simp; omega) ?_; intro v' w5 hown5 hg5 hnil5 hat5; go_frame)
            have HA5 := Lib.hid (And.intro hown5 (And.intro hg5 hat5))
            have hfar := ranges_far (HR3.out.1.alloc (.cells #[.string (S (url pub t))] 9))
            have hrg5 := (HR3.out.1.alloc (.cells #[.string (S (url pub t))] 9)).kept hg5 ((HA3.out.1.alloc _).r1.far hfar.1) ((HA3.out.1.alloc _).r1.far hfar.2)
            have hm5 := hrg5.left_eq
            have HR5 := Lib.hid hrg5
            have hBw5 : Below B W2 w5 := below_row (HA3.out.2.alloc (by omega) _) (by simp; omega) (HA3.out.1.alloc _).r1 HA5.out.2.1
            have HB5 := Lib.hid hBw5
            clear hown5 hg5 hat5 hfar hrg5 hBw5
            go_wp2_with fail
            go_roundw
            case rel =>
              refine ⟨_, cnt2, dn ++ [t], HR5.out, by rw [List.length_append, List.length_singleton]; omega, HT3.out, ?_, HB5.out⟩
              rw [urls_snoc_yes HP.out.1, urls_snoc_no (HP.out.2 _ _ _)]
              exact (T3.app (HA3.out.1.alloc _) HA5.out.1 HA5.out.2.1 HA5.out.2.2)
            case measure => rw [hm5, hm1]; exact hlt
    case rest =>
      obtain ⟨dn1, hdn1, hT1, hB1⟩ := hcut
      have HL1 := Lib.hid (And.intro hT1 (And.intro hB1 hdn1))
      have HM1 := Lib.hid (HHB.out wc hB1).m1
      clear hT1 hB1 hdn1 HG0 hrcB
      go_upto_block 2 with (first
        | (at_range; refine wpList_range_own _ rfl _ 28 rfl 9 9 law9 Tryz.underlying28 _ m1 N1 _ rfl HM1.out ?_; intro w0 hrg0 hg0 hs0))
      go_frame
      have hwcB : B ≤ wc.heap.size := by have := HL1.out.2.1.size; rw [← HBB.out] at this; exact this
      obtain ⟨rc2, hrc⟩ : ∃ r, r = wc.heap.size := ⟨_, rfl⟩
      have hBw : Below B W2 w0 := HL1.out.2.1.grown hg0 hwcB (fun k hk => by cases hk)
      have hT0 := HL1.out.1.up (⟨hg0.os, hg0.tape, hg0.output, hg0.size, fun k hk => hg0.block k hk (by simp)⟩ : Below wc.heap.size wc w0)
      rw [← hrc] at hrg0 ⊢
      have hszD : Maps.size (bmap (kvs ss hs)) = ss.length := kvs_size (HC.out.m1.canon law9) HC.out.d1 HC.out.e1
      rw [hszD] at hrg0
      have HG0 := Lib.hid (And.intro hrg0 (And.intro hBw hT0))
      have hrcB : rc2 ≥ B := by rw [hrc]; exact hwcB
      clear hs0 hg0 hrc hrg0 hBw hszD hT0
      go_wp2_with fail
      go_loopw [7] (fun v7 wr => ∃ (left : Lit → Bool) (cnt : Nat) (dn : List ByteArray), wr.ranges Tryz.prog 9 (plainElem Tryz.prog 9) m1 rc2 N1 (bmap (kvs ss hs)) left cnt ∧ dn.length + cnt ≤ ss.length ∧ Seen ss hs left dn ∧ T3 B u6 (urls pub (addP ss) dn1) v7 (urls pub (addP ts) dn) u8 (urls pub (updP ss hs ts gs) dn1) wr ∧ Below B W2 wr) (fun _ wr => wr.rangeLeft m1 rc2)
      case atStart => exact ⟨_, _, [], HG0.out.1, by simp, Seen.start HC.out.e1, HG0.out.2.2, HG0.out.2.1⟩
      case round =>
        obtain ⟨left, cnt, dn, hrg, hcs, hsn, hT, hBw⟩ := hrel
        have hnx := HC.out.b1
        have hnx3 := HC.out.b3
        have hm1 := hrg.left_eq
        have hsB : B ≤ wr.heap.size := by have := hBw.size; rw [← HBB.out] at this; exact this
        have HT := Lib.hid (And.intro hT (And.intro hBw hsn))
        have hitr := ranges_iter hrg
        clear hT hBw hsn
        go_wp2_with (first
          | (at_next; refine wpList_next_ranges _ rfl _ rfl 9 law9 (plainElem Tryz.prog 9) Value.string Value.string kInv vInv m1 rc2 N1 _ _ _ rfl hrg ?_ ?_))
        · intro hc0 hl0
          have HZ := Lib.hid hl0
          clear hl0 hrg
          go_wp2_with fail
          go_meet
          exact ⟨_, _, _, urls_perm HL1.out.2.2, urls_perm (HT.out.2.2.done HC.out.d1 HZ.out), urls_perm HL1.out.2.2, HT.out.1, HHB.out _ HT.out.2.1, HT.out.2.1⟩
        · intro x c kl yd yp w2 cnt2 hkey hlk hv hat hrg2 hlt hg2 hs2 hen
          obtain ⟨hkx, hxs⟩ := key_x hkey
          obtain ⟨t, ht, hkt, hsn2⟩ := HT.out.2.2.next HC.out.e1 hlk
          obtain rfl : x = outK t := str_eq (by rw [hkx] at hkt; unfold keyN at hkt; injection hkt)
          have hcv : hOf ss hs t = c := lit_inj ((look_at HC.out.d1 HC.out.e1 ht (.map [])).symm.trans (by rw [← hkt]; exact (hat _).trans (val_c hv)))
          have hB2 : Below B W2 w2 := HT.out.2.1.grown hg2 hsB (fun k hk => by cases hk; exact hrcB)
          have HT2 := Lib.hid (And.intro (HT.out.1.kept hg2 (fun j hj => by cases hj; exact hitr)) hB2)
          have HU := Lib.hid (fun wx (hb : Below B W2 wx) => url_any F n m2 bx pub t #[] wx ((HHB.out wx hb).tape HF.out.1) HF.out.2 (HHB.out wx hb).ha (HHB.out wx hb).cell.1 (HHB.out wx hb).cell.2 (HC.out.n1 t ht) (HC.out.z1 t ht) HC.out.pz)
          have HT3 := Lib.hid hsn2
          obtain ⟨c1, hrun, hat1⟩ := look_str (s := outK t) (HHB.out w2 hB2).m2 hxs
          have hm2 := hrg2.left_eq
          have hdl : (urls pub (addP ts) dn).length ≤ 4096 := by have := urls_le pub (addP ts) dn; omega
          have hsz2 : B ≤ w2.heap.size := by omega
          have HV := Lib.hid (And.intro hcv ht)
          clear hkey hlk hv hat hsn2 hg2 hkt hkx hcv ht hrg hm2
          by_cases hts : t ∈ ts
          · rw [has_yes HC.out.e3 hts] at hrun
            have HP := Lib.hid (tel_mem hts)
            have HR := Lib.hid hrg2
            clear hrg2 hts hat1
            go_wp2_with fail
            go_roundw
            case rel =>
              refine ⟨_, cnt2, dn ++ [t], HR.out, by rw [List.length_append, List.length_singleton]; omega, HT3.out, ?_, HT2.out.2⟩
              rw [urls_snoc_no HP.out]
              exact HT2.out.1
            case measure => rw [HR.out.left_eq, hm1]; exact hlt
          · rw [has_no HC.out.e3 hts] at hrun
            have HP := Lib.hid (tel_no hts)
            clear hts hat1
            go_wp2_with fail
            refine (HU.out _ hB2).mono ?_
            rintro e w3 ⟨rfl, hB3⟩
            have hs3 := hB3.size
            have hrg3 := hrg2.kept (grown_of_below hB3) (by simp) (by simp)
            have HA3 := Lib.hid (And.intro (HT2.out.1.up hB3) (HT2.out.2.trans (hB3.mono (by omega))))
            have HR3 := Lib.hid (And.intro hrg3 hrg3)
            clear hB3 hrg3
            go_wp2_with (at_builtin; refine wpList_append_own_at _ rfl _ _ 22 rfl B 9 i0 (.string ⟨#[]⟩) 1 16 Tryz.underlying22 HI.out.1 HI.out.2.1 HI.out.2.2.1 HI.out.2.2.2 rfl (by decide) _ _ _ rfl (HA3.out.1.alloc _).r2 ⟨w3.heap.size, 0, none⟩ 1 1 [.string (S (url pub t))] rfl rfl (cell_one_new _ _ _) (by simp [Value.oneCell']) (by unfold maxLen; omega) (by omega) (by simp; omega) ?_; intro v' w5 hown5 hg5 hnil5 hat5; go_frame)
            have HA5 := Lib.hid (And.intro hown5 (And.intro hg5 hat5))
            have hfar := ranges_far (HR3.out.1.alloc (.cells #[.string (S (url pub t))] 9))
            have hrg5 := (HR3.out.1.alloc (.cells #[.string (S (url pub t))] 9)).kept hg5 ((HA3.out.1.alloc _).r2.far hfar.1) ((HA3.out.1.alloc _).r2.far hfar.2)
            have hm5 := hrg5.left_eq
            have HR5 := Lib.hid hrg5
            have hBw5 : Below B W2 w5 := below_row (HA3.out.2.alloc (by omega) _) (by simp; omega) (HA3.out.1.alloc _).r2 HA5.out.2.1
            have HB5 := Lib.hid hBw5
            clear hown5 hg5 hat5 hfar hrg5 hBw5
            go_wp2_with fail
            go_roundw
            case rel =>
              refine ⟨_, cnt2, dn ++ [t], HR5.out, by rw [List.length_append, List.length_singleton]; omega, HT3.out, ?_, HB5.out⟩
              rw [urls_snoc_yes HP.out.1]
              exact (T3.app (HA3.out.1.alloc _).rot HA5.out.1 HA5.out.2.1 HA5.out.2.2).rot.rot
            case measure => rw [hm5, hm1]; exact hlt
  case rest =>
    obtain ⟨la, lr, lu, pa, pr, pu, hT, hHd, hBw⟩ := hcut
    have hlz1 : la.length ≤ 4096 := by rw [pa.length_eq]; have := urls_le pub (addP ss) ts; have := HC.out.b3; unfold addU; omega
    have hlz2 : lr.length ≤ 4096 := by rw [pr.length_eq]; have := urls_le pub (addP ts) ss; have := HC.out.b1; unfold addU; omega
    have hlz3 : lu.length ≤ 4096 := by rw [pu.length_eq]; have := urls_le pub (updP ss hs ts gs) ts; have := HC.out.b3; unfold updU; omega
    have HO1 := Lib.hid (fun u (hu : u ∈ srt la) => urls_ok (ts := ts) HC.out.pc HC.out.pz HC.out.n3 HC.out.z3 u (pa.mem_iff.1 (srt_mem.1 hu)))
    have HO2 := Lib.hid (fun u (hu : u ∈ srt lr) => urls_ok (ts := ss) HC.out.pc HC.out.pz HC.out.n1 HC.out.z1 u (pr.mem_iff.1 (srt_mem.1 hu)))
    have HO3 := Lib.hid (fun u (hu : u ∈ srt lu) => urls_ok (ts := ts) HC.out.pc HC.out.pz HC.out.n3 HC.out.z3 u (pu.mem_iff.1 (srt_mem.1 hu)))
    obtain ⟨o1, p1, rfl, _⟩ := hT.r1.inRow
    obtain ⟨o2, p2, rfl, _⟩ := hT.r2.inRow
    obtain ⟨o3, p3, rfl, _⟩ := hT.r3.inRow
    obtain ⟨z1, hz1⟩ : ∃ z, la.length = z := ⟨_, rfl⟩
    obtain ⟨z2, hz2⟩ : ∃ z, lr.length = z := ⟨_, rfl⟩
    obtain ⟨z3, hz3⟩ : ∃ z, lu.length = z := ⟨_, rfl⟩
    rw [hz1] at hlz1
    rw [hz2] at hlz2
    rw [hz3] at hlz3
    rw [hz1, hz2, hz3] at hT ⊢
    have HP := Lib.hid (And.intro pa (And.intro pr pu))
    have HT := Lib.hid (And.intro hT (And.intro hBw hHd))
    have HZ := Lib.hid (And.intro (show la.length ≤ 4096 by omega) (And.intro (show lr.length ≤ 4096 by omega) (show lu.length ≤ 4096 by omega)))
    have HL := Lib.hid (And.intro hz1 (And.intro hz2 hz3))
    have hst := still_iff pub ss hs ts gs
    clear pa pr pu hT hHd hBw c3 c4 c16 f16 HH HE2 hz1 hz2 hz3
    go_wp2_with fail
    refine WpN.seq (WpN.seqK fun K Q' hK => ?_)
    by_cases hs0 : Still ss hs ts gs
    · obtain ⟨h1, h2, h3⟩ := hst.1 hs0
      have g1 := HP.out.1
      have g2 := HP.out.2.1
      have g3 := HP.out.2.2
      rw [h1] at g1
      rw [h2] at g2
      rw [h3] at g3
      obtain rfl := g1.eq_nil
      obtain rfl := g2.eq_nil
      obtain rfl := g3.eq_nil
      have d1 := HL.out.1
      have d2 := HL.out.2.1
      have d3 := HL.out.2.2
      simp only [List.length_nil] at d1 d2 d3
      subst d1 d2 d3
      have HS0 := Lib.hid hs0
      clear hs0 hst h1 h2 h3 g1 g2 g3
      go_wp2_with fail
      refine WpN.cond (t := false) rfl ?_
      refine WpN.of ?_
      rw [if_neg (by decide)]
      go_wp2_with fail
      have HX := Lib.hid (And.intro HT.out.2.2.ha (And.intro HT.out.2.2.lk (And.intro HT.out.2.2.bk HT.out.2.2.bx)))
      obtain ⟨WU, hWU⟩ : ∃ WU, wc = WU := ⟨_, rfl⟩
      rw [hWU] at HX ⊢
      refine WpN.of ?_
      have c3 : WU.cell? ⟨bx, 0, none⟩ = some (.pointer (some ⟨n + 2, 0, none⟩)) := Lib.cell_of_heap HX.out.2.2.2 0
      have HUL := Lib.hid (unlock_held Tryz.muLib ⟨n + 2, 17, none⟩ WU HX.out.2.1.cell.1 HX.out.2.1.cell.2)
      go_wp2_with fail
      refine HUL.out.mono ?_
      rintro e w' ⟨rfl, rfl⟩
      go_wp2_with fail
      go_end0
      refine ⟨rfl, ?_, HX.out.2.1.set 0, HX.out.2.2.1.trans (Bk.set n 17 WU _)⟩
      have hha := HX.out.1.set17 0
      unfold sentB
      rw [if_pos HS0.out]
      exact hha
    · have hz : 0 < z1 ∨ (z1 = 0 ∧ 0 < z2) ∨ (z1 = 0 ∧ z2 = 0 ∧ 0 < z3) := by
        have h1 := HL.out.1
        have h2 := HL.out.2.1
        have h3 := HL.out.2.2
        have h4 := HP.out.1.length_eq
        have h5 := HP.out.2.1.length_eq
        have h6 := HP.out.2.2.length_eq
        refine Classical.byContradiction fun hno => hs0 (hst.2 ⟨List.eq_nil_of_length_eq_zero ?_, List.eq_nil_of_length_eq_zero ?_, List.eq_nil_of_length_eq_zero ?_⟩) <;> omega
      have HS0 := Lib.hid hs0
      clear hs0 hst
      go_cut [128] from 116 to 128 (fun s128 wx => s128 = .bool true ∧ wx = wc)
      case first =>
        rcases hz with h1 | ⟨rfl, h1⟩ | ⟨rfl, rfl, h1⟩
        · have u1 : decide ((0 : Int) < (z1 : Int)) = true := by simp; omega
          go_wp2_with fail
          go_meet
          exact ⟨rfl, rfl⟩
        · have u1 : decide ((0 : Int) < (z2 : Int)) = true := by simp; omega
          go_wp2_with fail
          go_meet
          exact ⟨rfl, rfl⟩
        · have u1 : decide ((0 : Int) < (z3 : Int)) = true := by simp; omega
          go_wp2_with fail
          go_meet
          exact ⟨rfl, rfl⟩
      case rest =>
        obtain ⟨rfl, rfl⟩ := hcut
        clear hz
        go_wp2_with fail
        refine WpN.cond (t := true) rfl ?_
        rw [if_pos rfl]
        have HT0 := Lib.hid (And.intro HT.out.1 HT.out.2.1)
        refine WpN.seqK fun K Q' hK => ?_
        have HSo := Lib.hid (sort_row B (.slice o1 z1 p1) la wc HT0.out.1.r1 (by have := HZ.out.1; omega))
        go_wp2_with fail
        refine HSo.out.mono ?_
        rintro e wa ⟨rfl, hra, hga⟩
        have HT1 := Lib.hid (And.intro (T3.sort HT0.out.1 hra hga) (below_row HT0.out.2 (by have := HT0.out.2.size; rw [← HBB.out] at this; exact this) HT0.out.1.r1 hga))
        clear HSo hra hga
        go_wp2_with fail
        refine WpN.seqK fun K Q' hK => ?_
        have HSo := Lib.hid (sort_row B (.slice o2 z2 p2) lr wa HT1.out.1.r2 (by have := HZ.out.2.1; omega))
        go_wp2_with fail
        refine HSo.out.mono ?_
        rintro e wb ⟨rfl, hra, hga⟩
        have HT2 := Lib.hid (And.intro (T3.sort HT1.out.1.rot hra hga).rot.rot (below_row HT1.out.2 (by have := HT1.out.2.size; rw [← HBB.out] at this; exact this) HT1.out.1.r2 hga))
        clear HSo hra hga
        go_wp2_with fail
        refine WpN.seqK fun K Q' hK => ?_
        have HSo := Lib.hid (sort_row B (.slice o3 z3 p3) lu wb HT2.out.1.r3 (by have := HZ.out.2.2; omega))
        go_wp2_with fail
        refine HSo.out.mono ?_
        rintro e w4 ⟨rfl, hra, hga⟩
        have HT3 := Lib.hid (And.intro (T3.sort HT2.out.1.rot.rot hra hga).rot (below_row HT2.out.2 (by have := HT2.out.2.size; rw [← HBB.out] at this; exact this) HT2.out.1.r3 hga))
        clear HSo hra hga
        go_wp2_with fail
        have hr1 := HT3.out.1.r1.row
        have hr2 := HT3.out.1.r2.row
        have hr3 := HT3.out.1.r3.row
        obtain ⟨L1, hL1⟩ : ∃ L, srt la = L := ⟨_, rfl⟩
        obtain ⟨L2, hL2⟩ : ∃ L, srt lr = L := ⟨_, rfl⟩
        obtain ⟨L3, hL3⟩ : ∃ L, srt lu = L := ⟨_, rfl⟩
        have HLL := Lib.hid (And.intro (hL1.symm.trans (srt_perm HP.out.1)) (And.intro (hL2.symm.trans (srt_perm HP.out.2.1)) (hL3.symm.trans (srt_perm HP.out.2.2))))
        rw [hL1] at HO1 hr1
        rw [hL2] at HO2 hr2
        rw [hL3] at HO3 hr3
        have k0 : j0.length = 10 := rfl
        have k1 : j1.length = 13 := rfl
        have k2 : j2.length = 13 := rfl
        have k3 : j3.length = 2 := rfl
        have hj1 : (listJ L1).length ≤ 8589950976 := Nat.le_trans (listJ_le L1 2097153 (fun y hy => (HO1.out y hy).2.2)) (by rw [← hr1.2]; exact Nat.mul_le_mul_right (2097153 + 3) hlz1)
        have hj2 : (listJ L2).length ≤ 8589950976 := Nat.le_trans (listJ_le L2 2097153 (fun y hy => (HO2.out y hy).2.2)) (by rw [← hr2.2]; exact Nat.mul_le_mul_right (2097153 + 3) hlz2)
        have hj3 : (listJ L3).length ≤ 8589950976 := Nat.le_trans (listJ_le L3 2097153 (fun y hy => (HO3.out y hy).2.2)) (by rw [← hr3.2]; exact Nat.mul_le_mul_right (2097153 + 3) hlz3)
        have HM1 := Lib.hid (And.intro hr1.2.symm (And.intro hlz1 (show (j0).length ≤ 30000000000 by omega)))
        have HM2 := Lib.hid (And.intro hr2.2.symm (And.intro hlz2 (show (j0 ++ listJ L1 ++ j1).length ≤ 30000000000 by simp only [List.length_append]; omega)))
        have HM3 := Lib.hid (And.intro hr3.2.symm (And.intro hlz3 (show (j0 ++ listJ L1 ++ j1 ++ listJ L2 ++ j2).length ≤ 30000000000 by simp only [List.length_append]; omega)))
        have HI1 := Lib.hid hr1.1
        have HI2 := Lib.hid hr2.1
        have HI3 := Lib.hid hr3.1
        clear hL1 hL2 hL3 hr1 hr2 hr3
        refine WpN.seqK fun K Q' hK => ?_
        go_wp2_with fail
        have hb0 : Bld w4.heap.size w4.heap.size [] (w4.alloc (.cells #[.pointer none, .slice none 0 0] 88)) := Lib.fresh_isBuilder 88 5 w4
        have hB0 : Below w4.heap.size w4 (w4.alloc (.cells #[.pointer none, .slice none 0 0] 88)) := (Below.refl _ _).alloc (Nat.le_refl _) _
        obtain ⟨w5, hw5⟩ : ∃ w5, w4.alloc (.cells #[.pointer none, .slice none 0 0] 88) = w5 := ⟨_, rfl⟩
        obtain ⟨B5, hB5⟩ : ∃ B5, B5 = w4.heap.size := ⟨_, rfl⟩
        rw [hw5, ← hB5] at hb0 hB0
        rw [hw5, ← hB5]
        have H5 := Lib.hid hB5
        have HN := Lib.hid (And.intro hb0 hB0)
        clear hw5 hB5 hb0 hB0
        refine WpN.seqK fun K Q' hK => ?_
        have HWS := Lib.hid (writeString_any B5 B5 ([]) (S j0) w5 HN.out.1 (by rw [S_size]; first | omega | (simp only [List.length_nil]; omega) | (simp only [List.length_append]; omega)) (by have := HN.out.2.size; rw [← H5.out] at this; exact this))
        go_wp2_with fail
        refine HWS.out.mono ?_
        rintro e ws ⟨rfl, hbs, hBs⟩
        rw [S_data] at hbs
        have HS := Lib.hid (And.intro (show Bld B5 B5 (j0) ws from hbs) (HN.out.2.trans hBs))
        clear hbs hBs HWS
        go_wp2_with fail
        refine WpN.seqK fun K Q' hK => ?_
        go_wp2_with fail
        go_loopw [138] (fun sk wr => ∃ k : Nat, sk = .int .i64 k ∧ k ≤ z1 ∧ Bld B5 B5 (j0 ++ listJ (L1.take k)) wr ∧ Below B5 w4 wr) (fun sk _ => z1 - (intOf sk).toNat)
        case atStart => exact ⟨0, rfl, Nat.zero_le _, by simpa [listJ] using HS.out.1, HS.out.2⟩
        case round =>
          obtain ⟨k, rfl, hk, hb, hBw⟩ := hrel
          have hsz4 : B5 ≤ wr.heap.size := by have := hBw.size; rw [← H5.out] at this; exact this
          have hkl : k ≤ 4096 := Nat.le_trans hk HM1.out.2.1
          by_cases hlt : k < z1
          · obtain ⟨x, u, rfl, huk, hcu⟩ := (HI1.out.up (by rw [← H5.out]; exact hBw)).get hlt
            have hkL : k < L1.length := by have := HM1.out.1; omega
            have hO := HO1.out u (List.mem_of_getElem? huk)
            have hgu : L1[k]! = u := by rw [getElem!_pos L1 k hkL]; exact (List.getElem?_eq_some_iff.1 huk).2
            have htk := listJ_take L1 hkL
            rw [hgu] at htk
            have htl : (j0 ++ listJ (L1.take k)).length ≤ 40000000000 := by
              have h1 := listJ_le (L1.take k) 2097153 (fun y hy => (HO1.out y (List.mem_of_mem_take hy)).2.2)
              have h2 := HM1.out.2.2
              rw [List.length_take] at h1
              have h3 : min k L1.length ≤ 4096 := by omega
              have h4 := Nat.mul_le_mul_right (2097153 + 3) h3
              rw [List.length_append]
              omega
            have HT := Lib.hid (And.intro htk (And.intro hO htl))
            have HB := Lib.hid (And.intro hb hBw)
            clear huk hgu htk htl hO hb hBw hkL
            by_cases h0 : k = 0
            · subst h0
              rw [show x.add 0 = x by simp [Addr.add]] at hcu
              go_wp2_with fail
              refine (quote_any (S u) HT.out.2.1.1 (by rw [S_size]; exact HT.out.2.1.2.1) (by rw [S_size]; have := HT.out.2.1.2.2; omega) wr).mono ?_
              rintro e wq ⟨vq, rfl, hq⟩
              have hbq := Bld.below HB.out.1 hq.2.1
              have hsq := hq.2.1.size
              have hsh : Shows vq (qt u) wq := by
                have := buf_shows hq (by simp)
                rwa [S_data] at this
              have hnq : ∀ g, vq.ownBlock = some g → g ≠ B5 := by
                intro g hg
                have h1 := (hq.1.lt g hg).1
                have h2 : B5 < wr.heap.size := bldb_lt HB.out.1
                omega
              have HQ := Lib.hid (write_any B5 B5 _ (qt u) vq wq hbq hsh hnq (by have h1 := HT.out.2.2; have h2 := HT.out.2.1.2.2; rw [qt_length]; first | omega | (rw [List.length_append, List.length_singleton]; omega)) (by omega))
              have HR := Lib.hid (HB.out.2.trans (hq.2.1.mono hsz4))
              clear hq hbq hsh hnq
              go_wp2_with fail
              refine HQ.out.mono ?_
              rintro e wz ⟨⟨kz, rfl⟩, hbz, hBz⟩
              have HZ := Lib.hid (And.intro hbz (HR.out.trans hBz))
              clear hbz hBz
              go_wp2_with fail
              go_roundw
              case rel =>
                refine ⟨0 + 1, by go_num, by omega, ?_, HZ.out.2⟩
                have e1 := HT.out.1
                rw [if_pos True.intro] at e1
                rw [e1]
                have e2 := HZ.out.1
                simp only [List.append_assoc, List.nil_append] at e2 ⊢
                exact e2
              case measure => simp [intOf]; omega
            · go_wp2_with fail
              refine (writeRune_k B5 B5 _ 44 (by omega) (by omega) wr HB.out.1 (by have := HT.out.2.2; omega) hsz4).mono ?_
              rintro e wa ⟨⟨kk, rfl⟩, hba, hBa, _⟩
              have HA := Lib.hid (And.intro (show Bld B5 B5 (j0 ++ listJ (L1.take k) ++ [44]) wa from hba) (HB.out.2.trans hBa))
              have hsza : B5 ≤ wa.heap.size := Nat.le_trans hsz4 hBa.size
              clear hba hBa
              go_wp2_with fail
              refine (quote_any (S u) HT.out.2.1.1 (by rw [S_size]; exact HT.out.2.1.2.1) (by rw [S_size]; have := HT.out.2.1.2.2; omega) wa).mono ?_
              rintro e wq ⟨vq, rfl, hq⟩
              have hbq := Bld.below HA.out.1 hq.2.1
              have hsq := hq.2.1.size
              have hsh : Shows vq (qt u) wq := by
                have := buf_shows hq (by simp)
                rwa [S_data] at this
              have hnq : ∀ g, vq.ownBlock = some g → g ≠ B5 := by
                intro g hg
                have h1 := (hq.1.lt g hg).1
                have h2 : B5 < wa.heap.size := bldb_lt HA.out.1
                omega
              have HQ := Lib.hid (write_any B5 B5 _ (qt u) vq wq hbq hsh hnq (by have h1 := HT.out.2.2; have h2 := HT.out.2.1.2.2; rw [qt_length]; first | omega | (rw [List.length_append, List.length_singleton]; omega)) (by omega))
              have HR := Lib.hid (HA.out.2.trans (hq.2.1.mono hsza))
              clear hq hbq hsh hnq
              go_wp2_with fail
              refine HQ.out.mono ?_
              rintro e wz ⟨⟨kz, rfl⟩, hbz, hBz⟩
              have HZ := Lib.hid (And.intro hbz (HR.out.trans hBz))
              clear hbz hBz
              go_wp2_with fail
              go_roundw
              case rel =>
                refine ⟨k + 1, by go_num, by omega, ?_, HZ.out.2⟩
                have e1 := HT.out.1
                rw [if_neg h0] at e1
                rw [e1]
                have e2 := HZ.out.1
                simp only [List.append_assoc] at e2 ⊢
                exact e2
              case measure => simp [intOf]; omega
          · obtain rfl : k = z1 := by omega
            rw [List.take_of_length_le (by have := HM1.out.1; omega)] at hb
            have HN := Lib.hid (And.intro hb hBw)
            clear hb hBw HS hk hlt
            go_wp2_with fail
            refine WpN.seqK fun K Q' hK => ?_
            have HWS := Lib.hid (writeString_any B5 B5 (j0 ++ listJ L1) (S j1) wr HN.out.1 (by rw [S_size]; first | omega | (simp only [List.length_nil]; omega) | (simp only [List.length_append]; omega)) (by have := HN.out.2.size; rw [← H5.out] at this; exact this))
            go_wp2_with fail
            refine HWS.out.mono ?_
            rintro e ws ⟨rfl, hbs, hBs⟩
            rw [S_data] at hbs
            have HS := Lib.hid (And.intro (show Bld B5 B5 (j0 ++ listJ L1 ++ j1) ws from hbs) (HN.out.2.trans hBs))
            clear hbs hBs HWS
            go_wp2_with fail
            refine WpN.seqK fun K Q' hK => ?_
            go_wp2_with fail
            go_loopw [153] (fun sk wr => ∃ k : Nat, sk = .int .i64 k ∧ k ≤ z2 ∧ Bld B5 B5 (j0 ++ listJ L1 ++ j1 ++ listJ (L2.take k)) wr ∧ Below B5 w4 wr) (fun sk _ => z2 - (intOf sk).toNat)
            case atStart => exact ⟨0, rfl, Nat.zero_le _, by simpa [listJ] using HS.out.1, HS.out.2⟩
            case round =>
              obtain ⟨k, rfl, hk, hb, hBw⟩ := hrel
              have hsz4 : B5 ≤ wr.heap.size := by have := hBw.size; rw [← H5.out] at this; exact this
              have hkl : k ≤ 4096 := Nat.le_trans hk HM2.out.2.1
              by_cases hlt : k < z2
              · obtain ⟨x, u, rfl, huk, hcu⟩ := (HI2.out.up (by rw [← H5.out]; exact hBw)).get hlt
                have hkL : k < L2.length := by have := HM2.out.1; omega
                have hO := HO2.out u (List.mem_of_getElem? huk)
                have hgu : L2[k]! = u := by rw [getElem!_pos L2 k hkL]; exact (List.getElem?_eq_some_iff.1 huk).2
                have htk := listJ_take L2 hkL
                rw [hgu] at htk
                have htl : (j0 ++ listJ L1 ++ j1 ++ listJ (L2.take k)).length ≤ 40000000000 := by
                  have h1 := listJ_le (L2.take k) 2097153 (fun y hy => (HO2.out y (List.mem_of_mem_take hy)).2.2)
                  have h2 := HM2.out.2.2
                  rw [List.length_take] at h1
                  have h3 : min k L2.length ≤ 4096 := by omega
                  have h4 := Nat.mul_le_mul_right (2097153 + 3) h3
                  rw [List.length_append]
                  omega
                have HT := Lib.hid (And.intro htk (And.intro hO htl))
                have HB := Lib.hid (And.intro hb hBw)
                clear huk hgu htk htl hO hb hBw hkL
                by_cases h0 : k = 0
                · subst h0
                  rw [show x.add 0 = x by simp [Addr.add]] at hcu
                  go_wp2_with fail
                  refine (quote_any (S u) HT.out.2.1.1 (by rw [S_size]; exact HT.out.2.1.2.1) (by rw [S_size]; have := HT.out.2.1.2.2; omega) wr).mono ?_
                  rintro e wq ⟨vq, rfl, hq⟩
                  have hbq := Bld.below HB.out.1 hq.2.1
                  have hsq := hq.2.1.size
                  have hsh : Shows vq (qt u) wq := by
                    have := buf_shows hq (by simp)
                    rwa [S_data] at this
                  have hnq : ∀ g, vq.ownBlock = some g → g ≠ B5 := by
                    intro g hg
                    have h1 := (hq.1.lt g hg).1
                    have h2 : B5 < wr.heap.size := bldb_lt HB.out.1
                    omega
                  have HQ := Lib.hid (write_any B5 B5 _ (qt u) vq wq hbq hsh hnq (by have h1 := HT.out.2.2; have h2 := HT.out.2.1.2.2; rw [qt_length]; first | omega | (rw [List.length_append, List.length_singleton]; omega)) (by omega))
                  have HR := Lib.hid (HB.out.2.trans (hq.2.1.mono hsz4))
                  clear hq hbq hsh hnq
                  go_wp2_with fail
                  refine HQ.out.mono ?_
                  rintro e wz ⟨⟨kz, rfl⟩, hbz, hBz⟩
                  have HZ := Lib.hid (And.intro hbz (HR.out.trans hBz))
                  clear hbz hBz
                  go_wp2_with fail
                  go_roundw
                  case rel =>
                    refine ⟨0 + 1, by go_num, by omega, ?_, HZ.out.2⟩
                    have e1 := HT.out.1
                    rw [if_pos True.intro] at e1
                    rw [e1]
                    have e2 := HZ.out.1
                    simp only [List.append_assoc, List.nil_append] at e2 ⊢
                    exact e2
                  case measure => simp [intOf]; omega
                · go_wp2_with fail
                  refine (writeRune_k B5 B5 _ 44 (by omega) (by omega) wr HB.out.1 (by have := HT.out.2.2; omega) hsz4).mono ?_
                  rintro e wa ⟨⟨kk, rfl⟩, hba, hBa, _⟩
                  have HA := Lib.hid (And.intro (show Bld B5 B5 (j0 ++ listJ L1 ++ j1 ++ listJ (L2.take k) ++ [44]) wa from hba) (HB.out.2.trans hBa))
                  have hsza : B5 ≤ wa.heap.size := Nat.le_trans hsz4 hBa.size
                  clear hba hBa
                  go_wp2_with fail
                  refine (quote_any (S u) HT.out.2.1.1 (by rw [S_size]; exact HT.out.2.1.2.1) (by rw [S_size]; have := HT.out.2.1.2.2; omega) wa).mono ?_
                  rintro e wq ⟨vq, rfl, hq⟩
                  have hbq := Bld.below HA.out.1 hq.2.1
                  have hsq := hq.2.1.size
                  have hsh : Shows vq (qt u) wq := by
                    have := buf_shows hq (by simp)
                    rwa [S_data] at this
                  have hnq : ∀ g, vq.ownBlock = some g → g ≠ B5 := by
                    intro g hg
                    have h1 := (hq.1.lt g hg).1
                    have h2 : B5 < wa.heap.size := bldb_lt HA.out.1
                    omega
                  have HQ := Lib.hid (write_any B5 B5 _ (qt u) vq wq hbq hsh hnq (by have h1 := HT.out.2.2; have h2 := HT.out.2.1.2.2; rw [qt_length]; first | omega | (rw [List.length_append, List.length_singleton]; omega)) (by omega))
                  have HR := Lib.hid (HA.out.2.trans (hq.2.1.mono hsza))
                  clear hq hbq hsh hnq
                  go_wp2_with fail
                  refine HQ.out.mono ?_
                  rintro e wz ⟨⟨kz, rfl⟩, hbz, hBz⟩
                  have HZ := Lib.hid (And.intro hbz (HR.out.trans hBz))
                  clear hbz hBz
                  go_wp2_with fail
                  go_roundw
                  case rel =>
                    refine ⟨k + 1, by go_num, by omega, ?_, HZ.out.2⟩
                    have e1 := HT.out.1
                    rw [if_neg h0] at e1
                    rw [e1]
                    have e2 := HZ.out.1
                    simp only [List.append_assoc] at e2 ⊢
                    exact e2
                  case measure => simp [intOf]; omega
              · obtain rfl : k = z2 := by omega
                rw [List.take_of_length_le (by have := HM2.out.1; omega)] at hb
                have HN := Lib.hid (And.intro hb hBw)
                clear hb hBw HS hk hlt
                go_wp2_with fail
                refine WpN.seqK fun K Q' hK => ?_
                have HWS := Lib.hid (writeString_any B5 B5 (j0 ++ listJ L1 ++ j1 ++ listJ L2) (S j2) wr HN.out.1 (by rw [S_size]; first | omega | (simp only [List.length_nil]; omega) | (simp only [List.length_append]; omega)) (by have := HN.out.2.size; rw [← H5.out] at this; exact this))
                go_wp2_with fail
                refine HWS.out.mono ?_
                rintro e ws ⟨rfl, hbs, hBs⟩
                rw [S_data] at hbs
                have HS := Lib.hid (And.intro (show Bld B5 B5 (j0 ++ listJ L1 ++ j1 ++ listJ L2 ++ j2) ws from hbs) (HN.out.2.trans hBs))
                clear hbs hBs HWS
                go_wp2_with fail
                refine WpN.seqK fun K Q' hK => ?_
                go_wp2_with fail
                go_loopw [168] (fun sk wr => ∃ k : Nat, sk = .int .i64 k ∧ k ≤ z3 ∧ Bld B5 B5 (j0 ++ listJ L1 ++ j1 ++ listJ L2 ++ j2 ++ listJ (L3.take k)) wr ∧ Below B5 w4 wr) (fun sk _ => z3 - (intOf sk).toNat)
                case atStart => exact ⟨0, rfl, Nat.zero_le _, by simpa [listJ] using HS.out.1, HS.out.2⟩
                case round =>
                  obtain ⟨k, rfl, hk, hb, hBw⟩ := hrel
                  have hsz4 : B5 ≤ wr.heap.size := by have := hBw.size; rw [← H5.out] at this; exact this
                  have hkl : k ≤ 4096 := Nat.le_trans hk HM3.out.2.1
                  by_cases hlt : k < z3
                  · obtain ⟨x, u, rfl, huk, hcu⟩ := (HI3.out.up (by rw [← H5.out]; exact hBw)).get hlt
                    have hkL : k < L3.length := by have := HM3.out.1; omega
                    have hO := HO3.out u (List.mem_of_getElem? huk)
                    have hgu : L3[k]! = u := by rw [getElem!_pos L3 k hkL]; exact (List.getElem?_eq_some_iff.1 huk).2
                    have htk := listJ_take L3 hkL
                    rw [hgu] at htk
                    have htl : (j0 ++ listJ L1 ++ j1 ++ listJ L2 ++ j2 ++ listJ (L3.take k)).length ≤ 40000000000 := by
                      have h1 := listJ_le (L3.take k) 2097153 (fun y hy => (HO3.out y (List.mem_of_mem_take hy)).2.2)
                      have h2 := HM3.out.2.2
                      rw [List.length_take] at h1
                      have h3 : min k L3.length ≤ 4096 := by omega
                      have h4 := Nat.mul_le_mul_right (2097153 + 3) h3
                      rw [List.length_append]
                      omega
                    have HT := Lib.hid (And.intro htk (And.intro hO htl))
                    have HB := Lib.hid (And.intro hb hBw)
                    clear huk hgu htk htl hO hb hBw hkL
                    by_cases h0 : k = 0
                    · subst h0
                      rw [show x.add 0 = x by simp [Addr.add]] at hcu
                      go_wp2_with fail
                      refine (quote_any (S u) HT.out.2.1.1 (by rw [S_size]; exact HT.out.2.1.2.1) (by rw [S_size]; have := HT.out.2.1.2.2; omega) wr).mono ?_
                      rintro e wq ⟨vq, rfl, hq⟩
                      have hbq := Bld.below HB.out.1 hq.2.1
                      have hsq := hq.2.1.size
                      have hsh : Shows vq (qt u) wq := by
                        have := buf_shows hq (by simp)
                        rwa [S_data] at this
                      have hnq : ∀ g, vq.ownBlock = some g → g ≠ B5 := by
                        intro g hg
                        have h1 := (hq.1.lt g hg).1
                        have h2 : B5 < wr.heap.size := bldb_lt HB.out.1
                        omega
                      have HQ := Lib.hid (write_any B5 B5 _ (qt u) vq wq hbq hsh hnq (by have h1 := HT.out.2.2; have h2 := HT.out.2.1.2.2; rw [qt_length]; first | omega | (rw [List.length_append, List.length_singleton]; omega)) (by omega))
                      have HR := Lib.hid (HB.out.2.trans (hq.2.1.mono hsz4))
                      clear hq hbq hsh hnq
                      go_wp2_with fail
                      refine HQ.out.mono ?_
                      rintro e wz ⟨⟨kz, rfl⟩, hbz, hBz⟩
                      have HZ := Lib.hid (And.intro hbz (HR.out.trans hBz))
                      clear hbz hBz
                      go_wp2_with fail
                      go_roundw
                      case rel =>
                        refine ⟨0 + 1, by go_num, by omega, ?_, HZ.out.2⟩
                        have e1 := HT.out.1
                        rw [if_pos True.intro] at e1
                        rw [e1]
                        have e2 := HZ.out.1
                        simp only [List.append_assoc, List.nil_append] at e2 ⊢
                        exact e2
                      case measure => simp [intOf]; omega
                    · go_wp2_with fail
                      refine (writeRune_k B5 B5 _ 44 (by omega) (by omega) wr HB.out.1 (by have := HT.out.2.2; omega) hsz4).mono ?_
                      rintro e wa ⟨⟨kk, rfl⟩, hba, hBa, _⟩
                      have HA := Lib.hid (And.intro (show Bld B5 B5 (j0 ++ listJ L1 ++ j1 ++ listJ L2 ++ j2 ++ listJ (L3.take k) ++ [44]) wa from hba) (HB.out.2.trans hBa))
                      have hsza : B5 ≤ wa.heap.size := Nat.le_trans hsz4 hBa.size
                      clear hba hBa
                      go_wp2_with fail
                      refine (quote_any (S u) HT.out.2.1.1 (by rw [S_size]; exact HT.out.2.1.2.1) (by rw [S_size]; have := HT.out.2.1.2.2; omega) wa).mono ?_
                      rintro e wq ⟨vq, rfl, hq⟩
                      have hbq := Bld.below HA.out.1 hq.2.1
                      have hsq := hq.2.1.size
                      have hsh : Shows vq (qt u) wq := by
                        have := buf_shows hq (by simp)
                        rwa [S_data] at this
                      have hnq : ∀ g, vq.ownBlock = some g → g ≠ B5 := by
                        intro g hg
                        have h1 := (hq.1.lt g hg).1
                        have h2 : B5 < wa.heap.size := bldb_lt HA.out.1
                        omega
                      have HQ := Lib.hid (write_any B5 B5 _ (qt u) vq wq hbq hsh hnq (by have h1 := HT.out.2.2; have h2 := HT.out.2.1.2.2; rw [qt_length]; first | omega | (rw [List.length_append, List.length_singleton]; omega)) (by omega))
                      have HR := Lib.hid (HA.out.2.trans (hq.2.1.mono hsza))
                      clear hq hbq hsh hnq
                      go_wp2_with fail
                      refine HQ.out.mono ?_
                      rintro e wz ⟨⟨kz, rfl⟩, hbz, hBz⟩
                      have HZ := Lib.hid (And.intro hbz (HR.out.trans hBz))
                      clear hbz hBz
                      go_wp2_with fail
                      go_roundw
                      case rel =>
                        refine ⟨k + 1, by go_num, by omega, ?_, HZ.out.2⟩
                        have e1 := HT.out.1
                        rw [if_neg h0] at e1
                        rw [e1]
                        have e2 := HZ.out.1
                        simp only [List.append_assoc] at e2 ⊢
                        exact e2
                      case measure => simp [intOf]; omega
                  · obtain rfl : k = z3 := by omega
                    rw [List.take_of_length_le (by have := HM3.out.1; omega)] at hb
                    have HN := Lib.hid (And.intro hb hBw)
                    clear hb hBw HS hk hlt
                    go_wp2_with fail
                    refine WpN.seqK fun K Q' hK => ?_
                    have HWS := Lib.hid (writeString_any B5 B5 (j0 ++ listJ L1 ++ j1 ++ listJ L2 ++ j2 ++ listJ L3) (S j3) wr HN.out.1 (by rw [S_size]; first | omega | (simp only [List.length_nil]; omega) | (simp only [List.length_append]; omega)) (by have := HN.out.2.size; rw [← H5.out] at this; exact this))
                    go_wp2_with fail
                    refine HWS.out.mono ?_
                    rintro e ws ⟨rfl, hbs, hBs⟩
                    rw [S_data] at hbs
                    have HS := Lib.hid (And.intro (show Bld B5 B5 (j0 ++ listJ L1 ++ j1 ++ listJ L2 ++ j2 ++ listJ L3 ++ j3) ws from hbs) (HN.out.2.trans hBs))
                    clear hbs hBs HWS
                    go_wp2_with fail
                    refine WpN.seqK fun K Q' hK => ?_
                    have HST := Lib.hid (Tryz.Builder_String_any B5 B5 (j0 ++ listJ L1 ++ j1 ++ listJ L2 ++ j2 ++ listJ L3 ++ j3) ws HS.out.1 (by have := HS.out.2.size; rw [← H5.out] at this; exact this))
                    go_wp2_with fail
                    refine HST.out.mono ?_
                    rintro e wt ⟨rfl, hBt⟩
                    obtain ⟨TX, hTX⟩ : ∃ TX, (⟨(j0 ++ listJ L1 ++ j1 ++ listJ L2 ++ j2 ++ listJ L3 ++ j3).toArray⟩ : ByteArray) = TX := ⟨_, rfl⟩
                    rw [hTX]
                    have HTX := Lib.hid hTX
                    have hB4t := HS.out.2.trans hBt
                    rw [H5.out] at hB4t
                    have hHt := (HHB.out w4 HT3.out.2).up hB4t
                    have HD := Lib.hid hHt
                    clear hTX hBt hB4t hHt HST HS HN
                    go_wp2_with fail
                    have c3 := HD.out.cell.1
                    obtain ⟨_, _, _, c15, _, r0⟩ := HD.out.ha.cells
                    obtain ⟨sq, rq, hch⟩ := HD.out.ha.ch
                    refine WpN.seqK fun K Q' hK => ?_
                    go_wp2_with fail
                    refine WpN.block ?_
                    refine WpN.loop (LoopN.round ?_)
                    refine WpN.seqK fun K Q' hK => ?_
                    go_wp2_with fail
                    refine WpN.seqK fun K Q' hK => ?_
                    go_wp2_with fail
                    refine WpN.seq (WpN.block ?_)
                    refine WpN.seqK fun K Q' hK => ?_
                    go_wp2_with fail
                    refine WpN.region ?_
                    change OpsN _ _ _ [0, 1, 2, 3] _ _
                    refine OpsN.value (v := .chan (some n)) (w' := wt) rfl rfl (by simp [go_sem, execOp]) ?_
                    refine OpsN.value (v := .string TX) (w' := wt) rfl rfl (by simp [go_sem, execOp, Act.put]) ?_
                    refine OpsN.value (v := .agg #[.string ⟨#[99, 104, 97, 110, 103, 101]⟩, .string TX]) (w' := wt) rfl rfl (build_ev TX _ wt _ rfl (by simp [Act.put, go_sem])) ?_
                    refine OpsN.send (w₁ := wt) (z := .tuple #[]) (v := .agg #[.string ⟨#[99, 104, 97, 110, 103, 101]⟩, .string TX]) rfl rfl (by simp [go_sem, execOp, Act.put, scase]) hch (by simp) ?_
                    refine OpsN.nil ?_
                    have HX := Lib.hid (sent_facts (.agg #[.string ⟨#[99, 104, 97, 110, 103, 101]⟩, .string TX]) HD.out hch)
                    obtain ⟨WU, hWU⟩ : ∃ WU, wt.setChan n 1 (#[].push (Value.agg #[.string ⟨#[99, 104, 97, 110, 103, 101]⟩, .string TX])) false (sq + 1) rq false = WU := ⟨_, rfl⟩
                    rw [hWU] at HX ⊢
                    clear hWU hch c15 r0 c3
                    simp only [Exit.inBlock, Exit.then]
                    refine WpN.of ?_
                    go_frame
                    go_wp2_with fail
                    refine LoopN.round ?_
                    refine WpN.seqK fun K Q' hK => ?_
                    go_wp2_with fail
                    refine WpN.seq (WpN.of ?_)
                    go_wp2_with fail
                    refine WpN.of ?_
                    have c3 : WU.cell? ⟨bx, 0, none⟩ = some (.pointer (some ⟨n + 2, 0, none⟩)) := Lib.cell_of_heap HX.out.2.2.2 0
                    have HUL := Lib.hid (unlock_held Tryz.muLib ⟨n + 2, 17, none⟩ WU HX.out.2.1.cell.1 HX.out.2.1.cell.2)
                    go_wp2_with fail
                    refine HUL.out.mono ?_
                    rintro e w' ⟨rfl, rfl⟩
                    go_wp2_with fail
                    go_end0
                    refine ⟨rfl, ?_, HX.out.2.1.set 0, HX.out.2.2.1.trans (Bk.set n 17 WU _)⟩
                    have hha := HX.out.1.set17 0
                    unfold sentB
                    rw [if_neg HS0.out]
                    have hd : TX = S (diffB pub ss hs ts gs) := by
                      rw [← HTX.out, HLL.out.1, HLL.out.2.1, HLL.out.2.2]
                      rfl
                    rw [← hd]
                    exact hha
end Go.Proofs.YtglchiomdojjoaaGreatFmt
