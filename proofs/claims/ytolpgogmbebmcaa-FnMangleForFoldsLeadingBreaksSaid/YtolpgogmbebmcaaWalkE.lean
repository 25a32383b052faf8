/-
  The walk of FnMangleForFoldsLeadingBreaks: it returns true for every input; conditions: those of the row.
-/
import Derived.Test.YtolpgogmbebmcaaStl
import Derived.LaidEqlPtr
import Derived.Deep.CutBlock
namespace Go.Proofs.Ytolpgogmbebmcaa
open Go.RowKit

def SomeZ (w : World) (e : Ending) (w' : World) : Prop := (∃ z, e = .returned (.bool z)) ∧ w = w'
set_option maxHeartbeats 400000 in
theorem zz23_any (h : Bool) (k : Int) (A : Option Addr) (n cap : Nat) (w : World) (hn : n ≤ maxLen) : Calls Try.prog 23 #[.bool h, .int .i64 k, .slice A n cap] w (SomeZ w) := by
  unfold maxLen at hn
  go_enter Try.func23, Try.ntmps23
  go_wp2
  all_goals (go_ret; exact ⟨⟨_, rfl⟩, rfl⟩)

def Rel1 (w : World) (k N : Nat) (s8 s9 : Value) (wr : World) : Prop :=
  ∃ (c : Nat) (ds : List Value), c ≤ k ∧ s9 = .int .i64 ((c : Int) + 1) ∧ s8 = .slice (some ⟨w.heap.size, 0, none⟩) c N ∧ ds.length = c ∧ wr.ownsRow w.heap.size 32 2 (.slice (some ⟨w.heap.size, 0, none⟩) c N) c (stL ds 0) ∧
    (∀ i, i < c → IfAt wr (w.heap.size + 1) (ds.getD i .nilIface) ((i : Int) + 1)) ∧ Below w.heap.size w wr ∧ w.heap.size + 1 ≤ wr.heap.size
def Rel2 (w : World) (k m : Nat) (zs : List Int) (s8 s11 : Value) (wr : World) : Prop :=
  ∃ (c : Nat) (ds : List Value), c ≤ m ∧ s11 = .int .i64 c ∧ s8 = .slice (some ⟨w.heap.size, 0, none⟩) (k + c) (k + m) ∧ ds.length = k + c ∧ wr.ownsRow w.heap.size 32 2 (.slice (some ⟨w.heap.size, 0, none⟩) (k + c) (k + m)) (k + c) (stL ds 0) ∧
    (∀ i, i < k → IfAt wr (w.heap.size + 1) (ds.getD i .nilIface) ((i : Int) + 1)) ∧ (∀ i, i < c → IsKind wr (w.heap.size + 1) (norm (zs.getD i 0)) (ds.getD (k + i) .nilIface)) ∧ Below w.heap.size w wr ∧ w.heap.size + 1 ≤ wr.heap.size
theorem getD_app_lt {ds : List Value} {d : Value} {i : Nat} (h : i < ds.length) : (ds ++ [d]).getD i .nilIface = ds.getD i .nilIface := by
  rw [List.getD_eq_getElem?_getD, List.getElem?_append_left h, ← List.getD_eq_getElem?_getD]
theorem getD_app_eq {ds : List Value} {d : Value} {i : Nat} (h : i = ds.length) : (ds ++ [d]).getD i .nilIface = d := by
  subst h
  rw [List.getD_eq_getElem?_getD]
  simp


/-- The block and the loop as they are laid. -/
def W5 (w3 : World) (b N : Nat) : World := (w3.alloc (.cells #[.slice (some ⟨b, 0, none⟩) N N, .int .i32 0] 36)).alloc (.cells #[.nilIface, .int .i32 0, .nilIface, .int .i32 0, .nilIface, .int .i32 0, .iface 26 (.pointer (some ⟨w3.heap.size, 0, none⟩)), .int .i32 16777216, .bool false, .bool false] 51)
theorem W5_below (w3 : World) (b N : Nat) : Below w3.heap.size w3 (W5 w3 b N) := ((Below.refl _ _).alloc (Nat.le_refl _) _).alloc (by simp) _
theorem W5_for (w3 : World) (b N : Nat) : ForAt (W5 w3 b N) (w3.heap.size + 1) .nilIface 0 (.iface 26 (.pointer (some ⟨w3.heap.size, 0, none⟩))) 16777216 := ⟨_, Has.new _ _ _ (by simp), rfl, rfl, rfl, rfl, rfl⟩
theorem W5_state {w3 : World} {b N : Nat} {D : Nat → Value} (hb : b < w3.heap.size) (hN : N ≤ 131072) (hR : Row w3 b 32 (N * 2) (sc D (fun i => (i : Int) + 1))) : State (W5 w3 b N) w3.heap.size b N D 0 (.iface 26 (.pointer (some ⟨w3.heap.size, 0, none⟩))) 16777216 := by
  refine .inl ⟨rfl, rfl, Nat.zero_le _, _, Blk.alloc (heap_alloc_new w3 _) _, by omega, hN, fun _ => ⟨by rw [show (N - (N - 0)) * 2 = 0 by omega], by omega, (hR.alloc _).alloc _⟩⟩
theorem start_no {w3 : World} {b N : Nat} {D : Nat → Value} (hb : b < w3.heap.size) (hN : N ≤ 131072) (hR : Row w3 b 32 (N * 2) (sc D (fun i => (i : Int) + 1))) : FoldInv w3 false b N D 0 (W5 w3 b N) :=
  ⟨W5_below _ _ _, _, _, _, _, W5_for _ _ _, .inl ⟨rfl, rfl⟩, W5_state hb hN hR⟩
theorem start_yes {w3 w2 : World} {b N xq : Nat} {D : Nat → Value} (hb : b < w3.heap.size) (hN : N ≤ 131072) (hR : Row w3 b 32 (N * 2) (sc D (fun i => (i : Int) + 1))) (hb2 : Below (W5 w3 b N).heap.size (W5 w3 b N) w2) (hx : (W5 w3 b N).heap.size ≤ xq) (hc : w2.cell? ⟨xq, 1, none⟩ = some (.int .u32 0)) :
    FoldInv w3 true b N D 0 ((w2.setCell ⟨w3.heap.size + 1, 2, none⟩ (.iface 150 (.pointer (some ⟨xq, 0, none⟩)))).setCell ⟨w3.heap.size + 1, 3, none⟩ (.int .i32 16777219)) := by
  have hsz : (W5 w3 b N).heap.size = w3.heap.size + 1 + 1 := by simp [W5]
  have hset : ∀ i, i ≠ w3.heap.size + 1 → ((w2.setCell ⟨w3.heap.size + 1, 2, none⟩ (.iface 150 (.pointer (some ⟨xq, 0, none⟩)))).setCell ⟨w3.heap.size + 1, 3, none⟩ (.int .i32 16777219)).heap[i]? = w2.heap[i]? := fun i hi => by
    rw [Below.heap_setCell _ _ _ i (by show i ≠ w3.heap.size + 1; exact hi), Below.heap_setCell _ _ _ i (by show i ≠ w3.heap.size + 1; exact hi)]
  refine ⟨(((W5_below w3 b N).trans (hb2.mono (by omega))).setCell (p := ⟨w3.heap.size + 1, 2, none⟩) (by show w3.heap.size ≤ w3.heap.size + 1; omega) _).setCell (p := ⟨w3.heap.size + 1, 3, none⟩) (by show w3.heap.size ≤ w3.heap.size + 1; omega) _, _, _, _, _, ((W5_for w3 b N).up hb2).set _ _, .inr ⟨rfl, rfl, xq, rfl, by omega, by omega, ?_⟩, (W5_state hb hN hR).same ?_ ?_⟩
  · exact (World.cell?_of_block (a := ⟨xq, 1, none⟩) (hset xq (by omega))).trans hc
  · rw [hset _ (by omega), hb2.block _ (by omega)]
  · rw [hset _ (by omega), hb2.block _ (by omega)]

theorem Pair.far2 {w : World} {g : Nat} {t : TypeId} {a b : Value} (h : Pair w g t a b) {p : Addr} (hp : g ≠ p.block) (u : Value) : Pair (w.setCell p u) g t a b := (Below.heap_setCell w p u g hp).trans h
/-- The reading loop's state: e, and the chain that is left. -/
def RdRel (w5 : World) (S g k : Nat) (ht : Bool) (s16 : Value) (wr : World) : Prop :=
  ∃ (i : Nat) (T : Value) (TL : Int), i ≤ k ∧ s16 = .int .i64 i ∧ Pair wr w5.heap.size 49 T (.int .i32 TL) ∧ ((i = 0 ∧ ht = false) ∨ Chain w5 S g ht i T TL) ∧ Below w5.heap.size w5 wr
def RdEnd (w5 : World) (ht : Bool) (wr : World) : Prop :=
  Below w5.heap.size w5 wr ∧ (ht = true → ∃ xq, Pair wr w5.heap.size 49 (.iface 150 (.pointer (some ⟨xq, 0, none⟩))) (.int .i32 16777219) ∧ w5.cell? ⟨xq, 1, none⟩ = some (.int .u32 0))

def locs (k n : Nat) : List Value := (List.range n).map fun (j : Nat) => Value.int .i32 ((k : Int) + 1 + (j : Int))
theorem locs_succ (k n : Nat) : locs k (n + 1) = locs k n ++ [.int .i32 ((k : Int) + 1 + n)] := by simp [locs, List.range_succ]
theorem locs_get {k n i : Nat} (h : i < n) : (locs k n)[i]? = some (.int .i32 ((k : Int) + 1 + i)) := by simp [locs, h]
theorem info21 : (Try.prog.info? 21).map (fun i => (i.zero, i.size, i.bytes)) = some (some (.int .i32 0), 1, 4) := by kernel_rfl
theorem one_at (w : World) (d : Value) (t : TypeId) : ∀ j u, [d][j]? = some u → (w.alloc (.cells #[d] t)).cell? ((⟨w.heap.size, 0, none⟩ : Addr).add j) = some u := by
  intro j u hj
  have hj0 : j = 0 := by have := (List.getElem?_eq_some_iff.1 hj).1; simp at this; omega
  subst hj0
  injection hj with hj
  subst hj
  rw [show ((⟨w.heap.size, 0, none⟩ : Addr).add 0) = ⟨w.heap.size, 0, none⟩ from rfl]
  exact new_cell w _ t 0 _ _ rfl rfl
def EmptyEnd (w : World) (e : Ending) (w' : World) : Prop := (∃ z, e = .returned (.bool z)) ∧ Below w.heap.size w w'
set_option maxHeartbeats 1000000 in
theorem isEmpty_any (v : Value) (l : Int) (w : World) (hv : v = .nilIface ∨ ∃ T q, v = .iface T (.pointer (some ⟨q, 0, none⟩))) : Calls Try.prog 16 #[.agg #[v, .int .i32 l]] w (EmptyEnd w) := by
  rcases hv with rfl | ⟨T, q, rfl⟩
  · have t1 := tn76
    go_enter Try.func16, Try.ntmps16
    go_wp2
    go_ret
    exact ⟨⟨_, rfl⟩, (Below.refl _ _).alloc (Nat.le_refl _) _⟩
  · by_cases hT : T = 76
    · subst hT
      refine (isEmpty_yes _ l w).mono ?_
      rintro e w' ⟨rfl, h⟩
      exact ⟨⟨_, rfl⟩, h⟩
    · have t1 : ∀ (v : Value) (w : World), (Instr.typeAssert (.iface T v) 28 76 true).run Try.prog w = .ok (.tuple #[.pointer none, .bool false]) w := fun v w => by rw [ta76, if_neg hT]
      go_enter Try.func16, Try.ntmps16
      go_wp2
      go_ret
      exact ⟨⟨_, rfl⟩, (Below.refl _ _).alloc (Nat.le_refl _) _⟩
theorem State.up {w w' : World} {g b N c : Nat} {D : Nat → Value} {bd : Value} {bl : Int} (h : State w g b N D c bd bl) (hb : Below w.heap.size w w') (hg : g < w.heap.size) (hbl : b < w.heap.size) : State w' g b N D c bd bl := h.same (hb.block g hg) (hb.block b hbl)
theorem bel_grown {w w' : World} (h : w.grownBy w' none) : Below w.heap.size w w' := (Below.refl _ _).grown h (Nat.le_refl _) (fun k hk => by cases hk)

set_option maxHeartbeats 16000000 in
set_option maxRecDepth 100000 in
theorem fnMangleForFoldsLeadingBreaks_walk (a0 : Bool) (a1 : Int) (a2 : Option Addr) (m cap : Nat) (zs : List Int) (w : World) (_w1 : (Lit.int .i64 a1).wf = true) (w2 : IsRow .i8 w a2 m cap zs) :
    Calls Try.prog 6 #[.bool a0, .int .i64 a1, .slice a2 m cap] w fun e w' => e = .returned (.bool true) ∧ Below w.heap.size w w' := by
  have hml : m ≤ maxLen := by
    rcases w2 with ⟨_, rfl, _⟩ | ⟨_, _, h1, h2, _⟩
    · exact Nat.zero_le _
    · exact Nat.le_trans h1 h2
  have HR := Lib.hid w2
  have HZ := Lib.hid (zz23_any a0 a1 a2 m cap w hml)
  clear w2 _w1 hml
  by_cases hmid : 65536 < m
  · go_enter Try.func6, Try.ntmps6
    go_wp2_with fail
    refine HZ.out.mono ?_
    rintro e w' ⟨⟨z, rfl⟩, rfl⟩
    cases z
    all_goals (
      go_wp2_with fail
      go_ret
      exact ⟨rfl, Below.refl _ _⟩)
  have hm : m ≤ 65536 := by omega
  clear hmid
  by_cases hneg : a1 < 0
  · go_enter Try.func6, Try.ntmps6
    go_wp2_with fail
    refine HZ.out.mono ?_
    rintro e w' ⟨⟨z, rfl⟩, rfl⟩
    cases z
    all_goals (
      go_wp2_with fail
      go_ret
      exact ⟨rfl, Below.refl _ _⟩)
  by_cases hbig : 4096 < a1
  · go_enter Try.func6, Try.ntmps6
    go_wp2_with fail
    refine HZ.out.mono ?_
    rintro e w' ⟨⟨z, rfl⟩, rfl⟩
    cases z
    all_goals (
      go_wp2_with fail
      go_ret
      exact ⟨rfl, Below.refl _ _⟩)
  obtain ⟨k, rfl⟩ : ∃ k : Nat, a1 = (k : Int) := ⟨a1.toNat, by omega⟩
  have hk : k ≤ 4096 := by omega
  clear hneg hbig
  obtain ⟨i0, hi0, hz0, hz1, hz2⟩ := info_parts info32
  have HI := Lib.hid (And.intro hi0 (And.intro hz0 (And.intro hz1 hz2)))
  clear hi0 hz0 hz1 hz2
  go_enter Try.func6, Try.ntmps6
  go_wp2_with fail
  refine HZ.out.mono ?_
  rintro e w' ⟨⟨z, rfl⟩, rfl⟩
  cases z
  · go_wp2_with fail
    go_ret
    exact ⟨rfl, Below.refl _ _⟩
  go_upto_block 0 with (at_make; refine wpList_make_own _ rfl _ _ 33 rfl w.heap.size 32 i0 (.agg #[.nilIface, .int .i32 0]) 2 Try.underlying33 HI.out.1 HI.out.2.1 HI.out.2.2.1 _ _ _ (k + m) rfl rfl (by push_cast; rfl) (by rw [HI.out.2.2.2]; omega) (by unfold maxLen; omega) (Nat.le_refl _) ?_; intro w1 hown hgrow)
  have hb1 : Below w.heap.size w w1 := (Below.refl _ _).grown hgrow (Nat.le_refl _) (fun k hk => by cases hk)
  have hs1 : w.heap.size + 1 ≤ w1.heap.size := by
    rcases hown.2 with ⟨h, _⟩ | ⟨g, cp, cur, h, hbg, hg, _⟩
    · cases h
    · injection h with h1
      injection h1 with h1
      injection h1 with h1
      have := (Array.getElem?_eq_some_iff.1 hg).1
      omega
  have HM := Lib.hid (And.intro hown (And.intro hb1 hs1))
  clear hown hgrow hb1 hs1
  go_cut [8] (fun s8 wx => ∃ s9, Rel1 w k (k + m) s8 s9 wx ∧ s9 = .int .i64 ((k : Int) + 1))
  case first =>
    as_aux_lemma =>
      go_wp2_with fail
      go_loopw [8, 9] (fun s8 s9 wr => Rel1 w k (k + m) s8 s9 wr) (fun _ s9 _ => k + 1 - (intOf s9).toNat)
      case atStart => exact ⟨0, [], Nat.zero_le _, rfl, rfl, rfl, HM.out.1, (fun i h => by omega), HM.out.2.1, HM.out.2.2⟩
      case round =>
        obtain ⟨c, ds, hc, rfl, rfl, hds, hown, hif, hb, hs⟩ := hrel
        by_cases hlt : c < k
        · have H := Lib.hid (And.intro hds (And.intro hown (And.intro hif hb)))
          clear hds hown hif hb
          go_wp2_with fail
          refine (ident_any _ _ _).mono ?_
          rintro e w1' ⟨v, rfl, ⟨xq, rfl, hxq, hxc⟩, hb1⟩
          have hown1 := owns_up H.out.2.1 hb1
          have H1 := Lib.hid (And.intro hxq (And.intro hxc (And.intro hb1 hown1)))
          have hs2 := hb1.size
          clear hxq hxc hb1 hown1
          go_wp2_with (at_builtin; refine wpList_append_fits _ rfl (.tmp 60) (.tmp 67) 33 rfl w.heap.size 32 i0 2 Try.underlying33 HI.out.1 HI.out.2.2.1 w.heap.size c (k + m) (stL ds 0) rfl (((H1.out.2.2.2.alloc _).alloc _).alloc _) ⟨w1'.heap.size + 1 + 1, 0, none⟩ 1 1 [.iface 59 (.pointer (some ⟨w1'.heap.size + 1, 0, none⟩)), .int .i32 ((c : Int) + 1)] rfl rfl (two_new _ _ _ _ _ (by simp)) (by intro u hu; simp at hu; rcases hu with rfl | rfl <;> rfl) (by omega) ?_; intro w2 hown2 hg2)
          have hbi := built_if (wr := wr) (w1 := w1') (B := w.heap.size) (by omega) H1.out.2.2.1 H1.out.1 H1.out.2.1 hg2
          have H2 := Lib.hid (And.intro hown2 hbi)
          clear hown2 hg2 hbi
          go_wp2_with fail
          go_roundw
          case rel =>
            refine ⟨c + 1, ds ++ [.iface 59 (.pointer (some ⟨w1'.heap.size + 1, 0, none⟩))], by omega, by go_num, rfl, by simp [H.out.1], ?_, fun i hi => ?_, H.out.2.2.2.trans H2.out.2.2.2.1, by have := H2.out.2.2.2.2; omega⟩
            · rw [stL_append, H.out.1, Nat.zero_add]
              exact H2.out.1
            · by_cases e : i = c
              · subst e
                rw [getD_app_eq H.out.1.symm]
                exact H2.out.2.1
              · rw [getD_app_lt (by rw [H.out.1]; omega)]
                exact (H.out.2.2.1 i (by omega)).same2 H2.out.2.2.1
          case measure => simp [intOf]; omega
        · obtain rfl : c = k := by omega
          have H := Lib.hid (And.intro hds (And.intro hown (And.intro hif hb)))
          clear hds hown hif hb
          go_wp2_with fail
          go_meet
          exact ⟨_, ⟨c, ds, Nat.le_refl _, rfl, rfl, H.out.1, H.out.2.1, H.out.2.2.1, H.out.2.2.2, hs⟩, rfl⟩
  case rest =>
    obtain ⟨s9, ⟨c, ds, hc, hs9, rfl, hds, hown, hif, hb, hs⟩, hs9'⟩ := hcut
    obtain rfl : c = k := by
      rw [hs9] at hs9'
      injection hs9' with _ h
      omega
    clear hs9 hs9' hc HM s9
    have HW := Lib.hid (And.intro hds (And.intro hown (And.intro hif (And.intro hb hs))))
    clear hds hown hif hb hs
    go_upto_block 2 with fail
    go_cut [8] (fun s8 wx => Rel2 w c m zs s8 (.int .i64 m) wx)
    case first =>
      as_aux_lemma =>
        go_wp2_with fail
        go_loopw [8, 11] (fun s8 s11 wr => Rel2 w c m zs s8 s11 wr) (fun _ s11 _ => m - (intOf s11).toNat)
        case atStart => exact ⟨0, ds, Nat.zero_le _, rfl, rfl, HW.out.1, HW.out.2.1, HW.out.2.2.1, (fun i h => by omega), HW.out.2.2.2.1, HW.out.2.2.2.2⟩
        case round =>
          obtain ⟨j, es, hj, rfl, rfl, hes, hown, hif, hki, hb, hs⟩ := hrel
          by_cases hlt : j < m
          · have H := Lib.hid (And.intro hes (And.intro hown (And.intro hif (And.intro hki hb))))
            clear hes hown hif hki hb
            obtain ⟨x, ch, rfl, hc1, hcz, cl, cu⟩ := (HR.out.below H.out.2.2.2.2).at2 (i := j) hlt
            have HC := Lib.hid hcz
            clear hcz
            go_wp2_with fail
            refine (norm_any ch _ cl cu).mono ?_
            rintro e w' ⟨rfl, rfl⟩
            go_wp2_with fail
            refine (make_any (norm ch) (norm_le ch) _ _).mono ?_
            rintro e w1' ⟨v, rfl, hv, hb1⟩
            have hown1 := owns_up H.out.2.1 hb1
            have H1 := Lib.hid (And.intro hv (And.intro hb1 hown1))
            have hone := hv.one
            have hs2 := hb1.size
            clear hv hb1 hown1
            go_wp2_with (at_builtin; refine wpList_append_fits _ rfl (.tmp 74) (.tmp 86) 33 rfl w.heap.size 32 i0 2 Try.underlying33 HI.out.1 HI.out.2.2.1 w.heap.size (c + j) (c + m) (stL es 0) rfl (H1.out.2.2.alloc _) ⟨w1'.heap.size, 0, none⟩ 1 1 [v, .int .i32 ((c : Int) + 1 + j)] rfl rfl (two_new _ _ _ _ _ rfl) (by intro u hu; simp at hu; rcases hu with rfl | rfl; exact hone; rfl) (by omega) ?_; intro w2 hown2 hg2)
            have hbi := built_kind (wr := wr) (w1 := w1') (B := w.heap.size) (by omega) H1.out.2.1 H1.out.1 hg2
            have H2 := Lib.hid (And.intro hown2 hbi)
            clear hown2 hg2 hbi
            go_wp2_with fail
            go_roundw
            case rel =>
              refine ⟨j + 1, es ++ [v], by omega, by go_num, rfl, by simp [H.out.1]; omega, ?_, fun i hi => ?_, fun i hi => ?_, H.out.2.2.2.2.trans H2.out.2.2.2.1, by have := H2.out.2.2.2.2; omega⟩
              · rw [stL_append, H.out.1, Nat.zero_add, show (((c + j : Nat) : Int) + 1) = (c : Int) + 1 + j by omega]
                exact H2.out.1
              · rw [getD_app_lt (by rw [H.out.1]; omega)]
                exact (H.out.2.2.1 i hi).same2 H2.out.2.2.1
              · by_cases e : i = j
                · subst e
                  rw [getD_app_eq H.out.1.symm, ← HC.out]
                  exact H2.out.2.1
                · rw [getD_app_lt (by rw [H.out.1]; omega)]
                  exact kind_same (H.out.2.2.2.1 i (by omega)) H2.out.2.2.2.2 H2.out.2.2.1
            case measure => simp [intOf]; omega
          · obtain rfl : j = m := by omega
            have H := Lib.hid (And.intro hes (And.intro hown (And.intro hif (And.intro hki hb))))
            clear hes hown hif hki hb
            go_wp2_with fail
            go_meet
            exact ⟨j, es, Nat.le_refl _, rfl, rfl, H.out.1, H.out.2.1, H.out.2.2.1, H.out.2.2.2.1, H.out.2.2.2.2, hs⟩
    case rest =>
      obtain ⟨j, es, _, hj, rfl, hes, hown, hif, hki, hb, hs⟩ := hcut
      obtain rfl : j = m := by
        injection hj with _ h
        omega
      clear hj HW
      obtain ⟨w3, rfl⟩ : ∃ w3 : World, w3 = wc := ⟨_, rfl⟩
      have hR := row_of_stL hown hes
      obtain ⟨D, hD⟩ : ∃ D : Nat → Value, D = fun i => es.getD i .nilIface := ⟨_, rfl⟩
      rw [← hD] at hR
      have hif0 : ∀ i, i < c → IfAt w3 0 (D i) ((i : Int) + 1) := fun i hi => by rw [hD]; exact (hif i hi).low
      obtain ⟨kl, hkl⟩ : ∃ kl, 1 ≤ c + j → IsKind w3 0 kl (D (c + j - 1)) := by
        by_cases h0 : j = 0
        · refine ⟨4, fun h1 => ?_⟩
          subst h0
          exact (hif0 (c + 0 - 1) (by omega)).kind
        · refine ⟨norm (zs.getD (j - 1) 0), fun _ => ?_⟩
          have := hki (j - 1) (by omega)
          rw [show c + (j - 1) = c + j - 1 by omega] at this
          rw [hD]
          exact this.mono (Nat.zero_le _)
      have HF := Lib.hid (And.intro hR (And.intro hif0 (And.intro hkl hb)))
      clear hR hif0 hkl hown hif hki hes hD hb
      have hbw : w.heap.size < w3.heap.size := by omega
      go_upto_if 97 with fail
      go_cut [] (fun wx => FoldInv w3 a0 w.heap.size (c + j) D 0 wx)
      case first =>
        as_aux_lemma =>
          cases a0
          · go_wp2_with fail
            go_meet
            exact start_no hbw (by omega) HF.out.1
          · go_wp2_with fail
            refine (ident_any 16777219 0 _).mono ?_
            rintro e w2 ⟨v, rfl, ⟨xq, rfl, hxq, hxc⟩, hb2⟩
            have hS2 := (W5_for w3 w.heap.size (c + j)).up hb2
            have q2 := hS2.c2
            have q3 := hS2.c3
            have f2 := hS2.frozen 2
            have f3 := hS2.frozen 3
            have H2 := Lib.hid (start_yes hbw (by omega) HF.out.1 hb2 hxq hxc)
            clear hS2 hb2 hxc hxq
            go_wp2_with fail
            go_meet
            exact H2.out
      case rest =>
        have HI0 := Lib.hid hcut
        clear hcut
        go_upto_block 4 with fail
        go_cut [] (fun wx => FoldInv w3 a0 w.heap.size (c + j) D c wx)
        case first =>
          as_aux_lemma =>
            go_wp2_with fail
            go_loopw [14] (fun s14 wr => ∃ i : Nat, i ≤ c ∧ s14 = .int .i64 i ∧ FoldInv w3 a0 w.heap.size (c + j) D i wr) (fun s14 _ => c - (intOf s14).toNat)
            case atStart => exact ⟨0, Nat.zero_le _, rfl, HI0.out⟩
            case round =>
              obtain ⟨i, hi, rfl, hinv⟩ := hrel
              by_cases hlt : i < c
              · have H := Lib.hid hinv
                clear hinv
                go_wp2_with (go_at_call 20; refine (fold_step w3 a0 w.heap.size (c + j) c i kl D _ hlt (by omega) hbw HF.out.2.1 (HF.out.2.2.1 (by omega)) H.out).mono ?_; rintro e w' ⟨rfl, hinv⟩)
                go_roundw
                case rel => exact ⟨i + 1, by omega, by go_num, hinv⟩
                case measure => simp [intOf]; omega
              · obtain rfl : i = c := by omega
                have H := Lib.hid hinv
                clear hinv
                go_wp2_with fail
                go_meet
                exact H.out
        case rest =>
          obtain ⟨w5, rfl⟩ : ∃ w5 : World, w5 = wc := ⟨_, rfl⟩
          obtain ⟨hb5, T, TL, bd, bl, hS, hch, hst⟩ := hcut
          have t2 := hS.c2
          have t3 := hS.c3
          have hSl := hS.lt
          have hone : T.oneCell' = true := by
            rcases hch.shape with ⟨rfl, _⟩ | ⟨_, _, _, rfl⟩ <;> rfl
          have hst0 := (Pair.new w5 49 .nilIface (.int .i32 0)).store T hone
          have H5 := Lib.hid (And.intro hb5 (And.intro hS (And.intro hch hst)))
          clear hb5 hS hch hst HI0
          go_upto_block 6 with fail
          go_cut [] (fun wx => RdEnd w5 a0 wx)
          case first =>
            as_aux_lemma =>
              go_wp2_with fail
              go_loopw [16] (fun s16 wr => RdRel w5 (w3.heap.size + 1) w3.heap.size c a0 s16 wr) (fun s16 _ => (intOf s16).toNat)
              case atStart => exact ⟨c, T, TL, Nat.le_refl _, rfl, Pair.new w5 49 _ _, .inr H5.out.2.2.1, (Below.refl _ _).alloc (Nat.le_refl _) _⟩
              case round =>
                obtain ⟨i, T', TL', hi, rfl, hp, hch, hb⟩ := hrel
                have hsz := hb.size
                have HB := Lib.hid (And.intro hp hb)
                have p0 := hp.c0
                have p1 := hp.c1
                have pl := hp.lt
                have pf0 := hp.frozen 0
                have pf1 := hp.frozen 1
                clear hp hb
                cases i with
                | zero =>
                  have HC := Lib.hid hch
                  clear hch
                  go_wp2_with fail
                  go_meet
                  refine ⟨HB.out.2, fun h => ?_⟩
                  rcases HC.out with ⟨_, h2⟩ | ⟨h2, _⟩ | ⟨_, rfl, xq, rfl, _, _, hx⟩
                  · rw [h2] at h; cases h
                  · rw [h2] at h; cases h
                  · exact ⟨xq, HB.out.1, hx⟩
                | succ i =>
                  rcases hch with ⟨h, _⟩ | ⟨rfl, rfl, rfl, u, xq, rfl, hu1, hu2, hx1, hx2, n0, n1, n2, n3⟩ | ⟨hcond, e, o, ol, nx, nl, rfl, he1, he2, hh, hch, rfl, u, xq, rfl, hu1, hu2, hx1, hx2, n0, n1, n2, n3⟩
                  · omega
                  · have e1 : ((0 + 1 : Nat) : Int) = 1 := rfl
                    rw [e1]
                    clear e1
                    have HN := Lib.hid (And.intro n0 (And.intro n1 (And.intro n2 n3)))
                    clear n0 n1 n2 n3
                    have ul := World.block_lt_of_cell? w5 _ HN.out.1
                    have xl := World.block_lt_of_cell? w5 _ HN.out.2.2.2
                    simp only at ul xl
                    go_wp2_with fail
                    refine (unaryOf_yes u 1 _).mono ?_
                    rintro e w2 ⟨rfl, hb2⟩
                    have hbw2 : Below w5.heap.size w5 w2 := (HB.out.2.alloc (by omega) _).trans (hb2.mono (by simp; omega))
                    have pE2 := (HB.out.1.alloc (.cells #[.iface 71 (.pointer (some ⟨u, 0, none⟩)), .int .i32 1] 49)).below hb2 (by simp; omega)
                    have k0 : w2.cell? ⟨u, 0, none⟩ = some (.iface 150 (.pointer (some ⟨xq, 0, none⟩))) := by rw [hbw2.cell (p := ⟨u, 0, none⟩) ul]; exact HN.out.1
                    have k1 : w2.cell? ⟨u, 1, none⟩ = some (.int .i32 1) := by rw [hbw2.cell (p := ⟨u, 1, none⟩) ul]; exact HN.out.2.1
                    have k2 : w2.cell? ⟨u, 2, none⟩ = some (.int .u8 3) := by rw [hbw2.cell (p := ⟨u, 2, none⟩) ul]; exact HN.out.2.2.1
                    have k3 : w2.cell? ⟨xq, 1, none⟩ = some (.int .u32 1) := by rw [hbw2.cell (p := ⟨xq, 1, none⟩) xl]; exact HN.out.2.2.2
                    have H2 := Lib.hid (And.intro hbw2 (And.intro pE2 k3))
                    clear hb2 hbw2 pE2 k3 p0 p1 pf0 pf1
                    go_wp2_with fail
                    refine (isIdent_yes 0 (.iface 150 (.pointer (some ⟨xq, 0, none⟩))) 1 1 _ ⟨xq, rfl, Nat.zero_le _, H2.out.2.2⟩).mono ?_
                    rintro e w4 ⟨rfl, hb4⟩
                    have H4 := Lib.hid (And.intro (H2.out.2.1.below hb4 H2.out.2.1.lt) (H2.out.1.trans (hb4.mono H2.out.1.size)))
                    clear hb4
                    go_wp2_with fail
                    go_roundw
                    case rel => exact ⟨0, _, _, by omega, rfl, H4.out.1, .inl ⟨rfl, rfl⟩, H4.out.2⟩
                    case measure => simp [intOf]
                  · obtain ⟨I, hI⟩ : ∃ I : Int, I = (i : Int) + 1 := ⟨_, rfl⟩
                    have e1 : ((i + 1 : Nat) : Int) = I := by omega
                    rw [e1]
                    rw [← hI] at n1 n3 hh
                    have HI1 := Lib.hid hI
                    have b1 : 1 ≤ I := by omega
                    have b2 : I ≤ 4096 := by omega
                    clear e1
                    have HN := Lib.hid (And.intro n0 (And.intro n1 (And.intro n2 n3)))
                    clear n0 n1 n2 n3
                    have ul := World.block_lt_of_cell? w5 _ HN.out.1
                    have xl := World.block_lt_of_cell? w5 _ HN.out.2.2.2
                    simp only at ul xl
                    have hel := hh.lt
                    obtain ⟨To, qo, rfl⟩ : ∃ To qo, o = .iface To (.pointer (some ⟨qo, 0, none⟩)) := by
                      rcases hch.shape with ⟨_, rfl, h⟩ | ⟨_, h⟩
                      · rw [h] at hcond
                        rcases hcond with h | h
                        · cases h
                        · omega
                      · exact h
                    have HH := Lib.hid (And.intro hh hch)
                    clear hh hch
                    have hc2 : 1 < I ∨ (¬ 1 < I ∧ a0 = true) := by
                      by_cases h1 : 1 < I
                      · exact .inl h1
                      · refine .inr ⟨h1, ?_⟩
                        rcases hcond with h | h
                        · exact h
                        · omega
                    clear hcond hI
                    rcases hc2 with h1 | ⟨h1, rfl⟩
                    all_goals (
                      go_wp2_with fail
                      refine (binaryOf_yes e _ _).mono ?_
                      rintro e' w2 ⟨rfl, hb2⟩
                      have pE2 := (HB.out.1.alloc (.cells #[.iface 66 (.pointer (some ⟨e, 0, none⟩)), .int .i32 TL'] 49)).below hb2 (by simp; omega)
                      have pN2 := (Pair.new wr 49 (.iface 66 (.pointer (some ⟨e, 0, none⟩))) (.int .i32 TL')).below hb2 (by simp)
                      have hbw2 : Below w5.heap.size w5 w2 := (HB.out.2.alloc (by omega) _).trans (hb2.mono (by simp; omega))
                      have hh2 := HH.out.1.below hbw2 hel
                      have h0 := hh2.cell 0 rfl
                      have h1 := hh2.cell 1 rfl
                      have h2 := hh2.cell 2 rfl
                      have h3 := hh2.cell 3 rfl
                      have h4 := hh2.cell 4 rfl
                      have r0 := pE2.c0
                      have r1 := pE2.c1
                      have r2 := pE2.frozen 0
                      have r3 := pE2.frozen 1
                      have r4 := pE2.lt
                      have s0 := pN2.c0
                      have s1 := pN2.c1
                      have s2 := pN2.frozen 0
                      have s3 := pN2.frozen 1
                      have s4 := pN2.lt
                      have H2 := Lib.hid (And.intro hbw2 (And.intro pE2 pN2))
                      clear hb2 hbw2 pE2 pN2 hh2 p0 p1 pf0 pf1
                      go_wp2_with fail
                      refine (unaryOf_yes u _ _).mono ?_
                      rintro e' w4 ⟨rfl, hb4⟩
                      have pE4 := ((((H2.out.2.1.far2 (p := ⟨wr.heap.size, 0, none⟩) (by show w5.heap.size ≠ wr.heap.size; omega) (.iface 71 (.pointer (some ⟨u, 0, none⟩)))).far2 (p := ⟨wr.heap.size, 1, none⟩) (by show w5.heap.size ≠ wr.heap.size; omega) (.int .i32 I)).set (.iface To (.pointer (some ⟨qo, 0, none⟩))) (.int .i32 ol))).below hb4 (by simp [World.setCell]; omega)
                      have hbw4 : Below w5.heap.size w5 w4 := ((((H2.out.1.setCell (p := ⟨wr.heap.size, 0, none⟩) (by show w5.heap.size ≤ wr.heap.size; omega) _).setCell (p := ⟨wr.heap.size, 1, none⟩) (by show w5.heap.size ≤ wr.heap.size; omega) _).setCell (p := ⟨w5.heap.size, 0, none⟩) (Nat.le_refl _) _).setCell (p := ⟨w5.heap.size, 1, none⟩) (Nat.le_refl _) _).trans (hb4.mono (by simp [World.setCell]; omega))
                      have k0 : w4.cell? ⟨u, 0, none⟩ = some (.iface 150 (.pointer (some ⟨xq, 0, none⟩))) := by rw [hbw4.cell (p := ⟨u, 0, none⟩) ul]; exact HN.out.1
                      have k1 : w4.cell? ⟨u, 1, none⟩ = some (.int .i32 I) := by rw [hbw4.cell (p := ⟨u, 1, none⟩) ul]; exact HN.out.2.1
                      have k2 : w4.cell? ⟨u, 2, none⟩ = some (.int .u8 3) := by rw [hbw4.cell (p := ⟨u, 2, none⟩) ul]; exact HN.out.2.2.1
                      have k3 : w4.cell? ⟨xq, 1, none⟩ = some (.int .u32 I) := by rw [hbw4.cell (p := ⟨xq, 1, none⟩) xl]; exact HN.out.2.2.2
                      have H4 := Lib.hid (And.intro hbw4 (And.intro pE4 k3))
                      clear hb4 hbw4 pE4 k3 h0 h1 h2 h3 h4 r0 r1 r2 r3 s0 s1 s2 s3
                      go_wp2_with fail
                      refine (isIdent_yes 0 (.iface 150 (.pointer (some ⟨xq, 0, none⟩))) _ _ _ ⟨xq, rfl, Nat.zero_le _, H4.out.2.2⟩).mono ?_
                      rintro e' w6 ⟨rfl, hb6⟩
                      have H6 := Lib.hid (And.intro (H4.out.2.1.below hb6 H4.out.2.1.lt) (H4.out.1.trans (hb6.mono H4.out.1.size)))
                      clear hb6
                      go_wp2_with fail
                      go_roundw
                      case rel => exact ⟨i, _, _, by omega, by rw [show I - 1 = (i : Int) by have := HI1.out; omega], H6.out.1, .inr HH.out.2, H6.out.2⟩
                      case measure => simp [intOf] <;> omega)
          case rest =>
            obtain ⟨w6, rfl⟩ : ∃ w6 : World, w6 = wc := ⟨_, rfl⟩
            obtain ⟨hb6, hold⟩ := hcut
            have HO := Lib.hid (And.intro hb6 hold)
            have hS6 := H5.out.2.1.up hb6
            have q2 := hS6.c2
            have lS6 := hS6.lt
            clear hb6 hold hS6 hst0 t2 t3
            go_upto_if 166 with fail
            go_cut [] (fun wx => Below w5.heap.size w5 wx)
            case first =>
              as_aux_lemma =>
                cases a0
                · by_cases h0 : c = 0
                  · have hT : T = .nilIface := by
                      have := H5.out.2.2.1
                      rw [h0] at this
                      rcases this with ⟨_, h⟩ | ⟨h, _⟩
                      · exact h
                      · cases h
                    subst hT
                    have hz : ((c : Int) == 0) = true := by rw [h0]; rfl
                    have nn := nn47
                    clear h0
                    go_wp2_with fail
                    go_meet
                    exact HO.out.1
                  · have hz : ((c : Int) == 0) = false := by rw [beq_eq_false_iff_ne]; omega
                    clear h0
                    go_wp2_with fail
                    go_meet
                    exact HO.out.1
                · obtain ⟨xq, hp, hx⟩ := HO.out.2 rfl
                  have xl := World.block_lt_of_cell? w5 _ hx
                  have p0 := hp.c0
                  have p1 := hp.c1
                  have pl := hp.lt
                  have HX := Lib.hid hx
                  clear hp hx q2
                  go_wp2_with fail
                  refine (isIdent_yes 0 (.iface 150 (.pointer (some ⟨xq, 0, none⟩))) 16777219 0 _ ⟨xq, rfl, Nat.zero_le _, by rw [HO.out.1.cell (p := ⟨xq, 1, none⟩) xl]; exact HX.out⟩).mono ?_
                  rintro e w7 ⟨rfl, hb7⟩
                  have hbb := HO.out.1.trans (hb7.mono HO.out.1.size)
                  clear hb7
                  go_wp2_with fail
                  go_meet
                  exact hbb
            case rest =>
              obtain ⟨w7, rfl⟩ : ∃ w7 : World, w7 = wc := ⟨_, rfl⟩
              have hb7 : Below w5.heap.size w5 w7 := hcut
              clear hcut q2
              have hs35 := H5.out.1.size
              have hs57 := hb7.size
              have hS7 := H5.out.2.1.up hb7
              have hst7 := H5.out.2.2.2.up hb7 (by omega) (by omega)
              have hbw7 : Below w.heap.size w w7 := HF.out.2.2.2.trans ((H5.out.1.mono (by omega)).trans (hb7.mono (by omega)))
              have lS7 := hS7.lt
              have H7 := Lib.hid (And.intro hS7 hst7)
              clear hb7 hS7 hst7
              obtain ⟨i1, hj0, hy0, hy1, hy2⟩ := info_parts info21
              have HJ := Lib.hid (And.intro hj0 (And.intro hy0 (And.intro hy1 hy2)))
              clear hj0 hy0 hy1 hy2
              go_wp2_with (at_make; refine wpList_make_own _ rfl _ _ 75 rfl w7.heap.size 21 i1 (.int .i32 0) 1 Try.underlying75 HJ.out.1 HJ.out.2.1 HJ.out.2.2.1 _ _ _ (j + 1) rfl rfl (by push_cast; rfl) (by rw [HJ.out.2.2.2]; omega) (by unfold maxLen; omega) (Nat.le_refl _) ?_; intro w8 hown8 hg8; have hb8 := bel_grown hg8; have hS8 := H7.out.1.up hb8; have c6 := hS8.c6; have c7 := hS8.c7; have lS8 := hS8.lt; have H8 := Lib.hid (And.intro hown8 (And.intro hb8 hS8)); clear hown8 hg8 hb8 hS8)
              rcases H7.out.2 with ⟨rfl, rfl, hcN, hL⟩ | ⟨hc1, hc2, rfl, rfl⟩ | ⟨hc1, hc2, ⟨q, rfl⟩, rfl⟩
              · rw [show c + j - c = j by omega] at hL
                have HL := Lib.hid hL
                have hgl := hL.lt
                clear hL
                refine (blockOf_yes w3.heap.size 16777216 _).mono ?_
                rintro e w9 ⟨rfl, hb9⟩
                have hb79 := H8.out.2.1.trans (hb9.mono H8.out.2.1.size)
                have hS9 := H8.out.2.2.up hb9
                have d7 := hS9.c7
                have lS9 := hS9.lt
                have hown9 := owns_up H8.out.1 hb9
                have H9 := Lib.hid (And.intro hb79 hown9)
                have np := np26
                clear hb9 hb79 hS9 hown9 c6 c7
                go_wp2_with fail
                go_loopw [20, 22] (fun s20 s22 wr => ∃ i : Nat, i ≤ j ∧ s22 = .int .i64 i ∧ s20 = .slice (some ⟨w7.heap.size, 0, none⟩) i (j + 1) ∧ wr.ownsRow w7.heap.size 21 1 (.slice (some ⟨w7.heap.size, 0, none⟩) i (j + 1)) i (locs c i) ∧ Below w7.heap.size w7 wr) (fun _ s22 _ => j - (intOf s22).toNat)
                case atStart => exact ⟨0, Nat.zero_le _, rfl, rfl, H9.out.2, H9.out.1⟩
                case round =>
                  clear d7 lS9
                  obtain ⟨i, hi, rfl, rfl, hown, hb⟩ := hrel
                  have hszr := hb.size
                  have hLr : Left wr w3.heap.size w.heap.size (c + j) j D := HL.out.below hb
                  obtain ⟨A, hB, _, _, hA⟩ := hLr
                  have r0 := hB.cell
                  have rl := hB.lt
                  have HA := Lib.hid hA
                  have HG := Lib.hid (And.intro hown hb)
                  clear hB hA hown hb
                  by_cases hlt : i < j
                  · obtain ⟨rfl, _, hRo⟩ := HA.out (by omega)
                    have q3 : wr.cell? ⟨w.heap.size, (c + j - j) * 2 + i * 2 + 1, none⟩ = some (.int .i32 ((c : Int) + 1 + i)) := by
                      have := hRo.cell (i := (c + i) * 2 + 1) (by omega)
                      rw [sc_odd] at this
                      rw [show (c + j - j) * 2 + i * 2 + 1 = (c + i) * 2 + 1 by omega, this]
                      show some (Value.int .i32 (((c + i : Nat) : Int) + 1)) = _
                      rw [show ((c + i : Nat) : Int) + 1 = (c : Int) + 1 + i by omega]
                    rw [show c + j - j = c by omega] at q3 r0
                    clear hRo
                    go_wp2_with (at_builtin; refine wpList_append_fits _ rfl (.tmp 211) (.tmp 221) 75 rfl w7.heap.size 21 i1 1 Try.underlying75 HJ.out.1 HJ.out.2.2.1 w7.heap.size i (j + 1) (locs c i) rfl (HG.out.1.alloc _) ⟨wr.heap.size, 0, none⟩ 1 1 [.int .i32 ((c : Int) + 1 + i)] rfl rfl (one_at _ _ _) (by intro u hu; simp at hu; subst hu; rfl) (by omega) ?_; intro w10 hown10 hg10)
                    have H10 := Lib.hid (And.intro hown10 ((HG.out.2.alloc hszr _).grown hg10 (by simp; omega) (fun k hk => by cases hk; exact Nat.le_refl _)))
                    clear hown10 hg10
                    go_wp2_with fail
                    go_roundw
                    case rel => exact ⟨i + 1, by omega, by go_num, rfl, by rw [locs_succ]; exact H10.out.1, H10.out.2⟩
                    case measure => simp [intOf]; omega
                  · obtain rfl : i = j := by omega
                    clear HA
                    go_wp2_with fail
                    go_loop [23] (fun s23 => ∃ i' : Nat, i' ≤ i ∧ s23 = .int .i64 i') (fun s23 => i - (intOf s23).toNat)
                    case atStart => exact ⟨0, Nat.zero_le _, rfl⟩
                    case round =>
                      obtain ⟨i', hi', rfl⟩ := hrel
                      by_cases hlt : i' < i
                      · have hcell := (World.ownsRowF_of HG.out.1).cells (g := w7.heap.size) rfl i' _ (locs_get hlt)
                        rw [Addr.add_lit, Nat.zero_add] at hcell
                        go_wp2_with fail
                        go_round
                        case rel => exact ⟨i' + 1, by omega, by go_num⟩
                        case measure => simp [intOf]; omega
                      · go_wp2_with fail
                        go_ret
                        exact ⟨rfl, hbw7.trans (HG.out.2.mono hbw7.size)⟩

              · obtain rfl : j = 1 := by omega
                have hv : D (c + 1 - 1) = .nilIface ∨ ∃ T q, D (c + 1 - 1) = .iface T (.pointer (some ⟨q, 0, none⟩)) := (HF.out.2.2.1 (by omega)).shape
                obtain ⟨v, hvd⟩ : ∃ v, D (c + 1 - 1) = v := ⟨_, rfl⟩
                obtain ⟨L, hL⟩ : ∃ L : Int, ((c + 1 : Nat) : Int) = L := ⟨_, rfl⟩
                have HS8 := H8.out.2.2
                rw [hvd, hL] at HS8 ⊢
                rw [hvd] at c6
                rw [hL] at c7
                rw [hvd] at hv
                have HV := Lib.hid hv
                have HLL := Lib.hid hL
                have l1 : (c : Int) < L := by omega
                have l2 : L ≤ 5000 := by omega
                have l3 : (L == 16777216) = false := by rw [beq_eq_false_iff_ne]; omega
                have HS8' := Lib.hid HS8
                clear hv hvd hL HS8 hc1
                refine (blockOf_any v L _ HV.out).mono ?_
                rintro e w9 ⟨p, rfl, hb9⟩
                have hS9 := HS8'.out.up hb9
                have hown9 := owns_up H8.out.1 hb9
                have d6 := hS9.c6
                have d7 := hS9.c7
                have lS9 := hS9.lt
                have H9 := Lib.hid (And.intro hS9 (And.intro hown9 (H8.out.2.1.trans (hb9.mono H8.out.2.1.size))))
                clear hS9 hown9 hb9 c6 c7
                go_upto_region 47 with fail
                go_cut [198] (fun s198 wx => s198 = .bool false ∧ w9 = wx)
                case first =>
                  as_aux_lemma =>
                    have hkeep := HO.out
                    clear hkeep
                    cases p
                    all_goals (
                      go_wp2_with fail
                      go_meet
                      exact ⟨rfl, rfl⟩)
                case rest =>
                  obtain ⟨rfl, rfl⟩ := hcut
                  go_upto_region 54 with fail
                  go_cut [247] (fun s247 wx => s247 = .bool false ∧ Below w9.heap.size w9 wx)
                  case first =>
                    as_aux_lemma =>
                      have hkeep := HO.out
                      clear hkeep
                      go_wp2_with fail
                      refine (isEmpty_any v L _ HV.out).mono ?_
                      rintro e w10 ⟨⟨z, rfl⟩, hb10⟩
                      have hS10 := H9.out.1.up hb10
                      have d6' := hS10.c6
                      have d7' := hS10.c7
                      have lS10 := hS10.lt
                      have H10 := Lib.hid hb10
                      clear hS10 hb10 d6 d7
                      cases z
                      all_goals (
                        go_wp2_with fail
                        go_meet
                        exact ⟨by first | rfl | (simp; omega), H10.out⟩)
                  case rest =>
                    obtain ⟨w10, rfl⟩ : ∃ w10 : World, w10 = wc := ⟨_, rfl⟩
                    obtain ⟨rfl, hb10⟩ := hcut
                    have hS10 := H9.out.1.up hb10
                    have hown10 := owns_up H9.out.2.1 hb10
                    have d6' := hS10.c6
                    have d7' := hS10.c7
                    have lS10 := hS10.lt
                    have H10 := Lib.hid (And.intro hown10 (H9.out.2.2.trans (hb10.mono H9.out.2.2.size)))
                    have hsz10 := H10.out.2.size
                    clear hS10 hown10 hb10 d6 d7
                    go_wp2_with (at_builtin; refine wpList_append_fits _ rfl (.tmp 248) (.tmp 255) 75 rfl w7.heap.size 21 i1 1 Try.underlying75 HJ.out.1 HJ.out.2.2.1 w7.heap.size 0 (1 + 1) [] rfl (H10.out.1.alloc _) ⟨w10.heap.size, 0, none⟩ 1 1 [.int .i32 L] rfl rfl (one_at _ _ _) (by intro u hu; simp at hu; subst hu; rfl) (by omega) ?_; intro w11 hown11 hg11)
                    have hown11' : w11.ownsRow w7.heap.size 21 1 (.slice (some ⟨w7.heap.size, 0, none⟩) 1 (1 + 1)) 1 (locs c 1) := by
                      have : locs c 1 = [] ++ [.int .i32 L] := by
                        rw [← HLL.out]
                        simp [locs, List.range_succ]
                      rw [this]
                      exact hown11
                    have HG := Lib.hid (And.intro hown11' ((H10.out.2.alloc hsz10 _).grown hg11 (by simp; omega) (fun k hk => by cases hk; exact Nat.le_refl _)))
                    clear hown11 hown11' hg11 d6' d7'
                    go_wp2_with fail
                    go_loop [23] (fun s23 => ∃ i : Nat, i ≤ 1 ∧ s23 = .int .i64 i) (fun s23 => 1 - (intOf s23).toNat)
                    case atStart => exact ⟨0, Nat.zero_le _, rfl⟩
                    case round =>
                      obtain ⟨i, hi, rfl⟩ := hrel
                      by_cases hlt : i < 1
                      · have hcell := (World.ownsRowF_of HG.out.1).cells (g := w7.heap.size) rfl i _ (locs_get hlt)
                        rw [Addr.add_lit, Nat.zero_add] at hcell
                        go_wp2_with fail
                        go_round
                        case rel => exact ⟨i + 1, by omega, by go_num⟩
                        case measure => simp [intOf]; omega
                      · go_wp2_with fail
                        go_ret
                        exact ⟨rfl, hbw7.trans (HG.out.2.mono hbw7.size)⟩
              · obtain rfl : j = 0 := by omega
                obtain ⟨L, hL⟩ : ∃ L : Int, ((c + 0 : Nat) : Int) = L := ⟨_, rfl⟩
                have HS8 := H8.out.2.2
                rw [hL] at c7 HS8 ⊢
                have HS8' := Lib.hid HS8
                have l1 : L ≤ (c : Int) := by omega
                have l2 : 1 ≤ L := by omega
                have l3 : (L == 16777216) = false := by rw [beq_eq_false_iff_ne]; omega
                clear hL HS8 hc1
                refine (blockOf_no 76 _ L _ (by decide)).mono ?_
                rintro e w9 ⟨rfl, hb9⟩
                have hS9 := HS8'.out.up hb9
                have hown9 := owns_up H8.out.1 hb9
                have d6 := hS9.c6
                have d7 := hS9.c7
                have lS9 := hS9.lt
                have H9 := Lib.hid (And.intro hS9 (And.intro hown9 (H8.out.2.1.trans (hb9.mono H8.out.2.1.size))))
                clear hS9 hown9 hb9 c6 c7
                go_wp2_with fail
                refine (isEmpty_yes _ L _).mono ?_
                rintro e w10 ⟨rfl, hb10⟩
                have hS10 := H9.out.1.up hb10
                have hown10 := owns_up H9.out.2.1 hb10
                have d6' := hS10.c6
                have d7' := hS10.c7
                have lS10 := hS10.lt
                have HG := Lib.hid (And.intro hown10 (H9.out.2.2.trans (hb10.mono H9.out.2.2.size)))
                clear hS10 hown10 hb10 d6 d7
                go_wp2_with fail
                go_loop [23] (fun s23 => s23 = .int .i64 0) (fun _ => 0)
                case atStart => rfl
                case round =>
                  obtain rfl := hrel
                  go_wp2_with fail
                  go_ret
                  exact ⟨rfl, hbw7.trans (HG.out.2.mono hbw7.size)⟩

end Go.Proofs.Ytolpgogmbebmcaa
