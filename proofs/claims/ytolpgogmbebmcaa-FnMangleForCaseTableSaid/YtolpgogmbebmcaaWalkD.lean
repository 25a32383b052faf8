/-
  The walk of FnMangleForCaseTable: it returns true for every input; conditions: those of the row.
-/
import Derived.Test.YtolpgogmbebmcaaWalkC
import Derived.LaidEqlPtr
namespace Go.Proofs.Ytolpgogmbebmcaa
open Go.RowKit

theorem ep26 (a : Addr) (w : World) : (binOp .eql 26 (.pointer (some a)) (.pointer (some a))).run Try.prog w = .ok (.bool true) w := by
  obtain ⟨j, hj⟩ : ∃ j, Try.prog.info? 36 = some j := by
    cases h : Try.prog.info? 36 with
    | none => exact absurd (h.symm.trans rfl) (by
        have h2 : (Try.prog.info? 36).isSome = true := by kernel_rfl
        rw [h] at h2
        cases h2)
    | some j => exact ⟨j, rfl⟩
  exact run_eql_ptr_same w a Try.underlying26 hj

def wantB (s : Nat) : Bool := decide (s ≤ 1)
def replB (s : Nat) : Bool := decide (s = 1 ∨ s = 2)
def secB (a1 : Bool) (n : Nat) (zs : List Int) : Bool := decide (20 ≤ sec a1 n zs)

def CutKeep (w : World) (wx : World) : Prop := Below w.heap.size w wx

def LoopC (w1 w3 : World) (n : Nat) (v : Value) (zs : List Int) (s : Value) (wr : World) : Prop :=
  ∃ (k : Nat) (D : Nat → Value), 1 ≤ k ∧ k ≤ n ∧ s = .int .i64 k ∧ Row wr w1.heap.size 32 (n * 2) (sc D (fun i => if i < k then (i : Int) + 1 else 0)) ∧ D 0 = v ∧ (∀ i, 1 ≤ i → i < k → IsKind wr (w1.heap.size + 1) (norm (zs.getD (i - 1) 0)) (D i)) ∧
    ((w3.setCell ⟨w1.heap.size, 0, none⟩ v).setCell ⟨w1.heap.size, 1, none⟩ (.int .i32 1)).grownBy wr (some w1.heap.size)

theorem loopC_start {w1 w3 : World} {n : Nat} {v : Value} {zs : List Int} (hn : 1 ≤ n) (hR : Row w3 w1.heap.size 32 (n * 2) (sc (fun _ => .nilIface) (fun _ => 0))) : LoopC w1 w3 n v zs (.int .i64 1) ((w3.setCell ⟨w1.heap.size, 0, none⟩ v).setCell ⟨w1.heap.size, 1, none⟩ (.int .i32 1)) := by
  refine ⟨1, fun j => if j = 0 then v else .nilIface, Nat.le_refl _, hn, rfl, (row_stmt (i := 0) hR v 1).congr (sc_congr fun i _ => ⟨rfl, ?_⟩), rfl, fun i h1 h2 => by omega, World.grownBy.refl _ _⟩
  by_cases e : i = 0
  · subst e; rfl
  · rw [if_neg e, if_neg (by omega)]

theorem loopC_next {w1 w3 wr wm : World} {n k : Nat} {v u : Value} {zs : List Int} {D : Nat → Value} (hk : 1 ≤ k) (hlt : k < n) (hR : Row wr w1.heap.size 32 (n * 2) (sc D (fun i => if i < k then (i : Int) + 1 else 0))) (hD : D 0 = v) (hK : ∀ i, 1 ≤ i → i < k → IsKind wr (w1.heap.size + 1) (norm (zs.getD (i - 1) 0)) (D i))
    (hg : ((w3.setCell ⟨w1.heap.size, 0, none⟩ v).setCell ⟨w1.heap.size, 1, none⟩ (.int .i32 1)).grownBy wr (some w1.heap.size)) (hb : Below wr.heap.size wr wm) (hu : IsKind wm wr.heap.size (norm (zs.getD (k - 1) 0)) u) :
    LoopC w1 w3 n v zs (.int .i64 ((k + 1 : Nat) : Int)) ((wm.setCell ⟨w1.heap.size, k * 2, none⟩ u).setCell ⟨w1.heap.size, k * 2 + 1, none⟩ (.int .i32 ((k : Int) + 1))) := by
  have hl := hR.lt
  refine ⟨k + 1, fun j => if j = k then u else D j, by omega, by omega, rfl, (row_stmt (i := k) (hR.below hb hl) u ((k : Int) + 1)).congr (sc_congr fun i _ => ⟨rfl, ?_⟩), ?_, ?_, ?_⟩
  · by_cases e : i = k
    · subst e
      rw [if_pos rfl, if_pos (by omega)]
    · rw [if_neg e]
      by_cases e2 : i < k
      · rw [if_pos e2, if_pos (by omega)]
      · rw [if_neg e2, if_neg (by omega)]
  · show (if 0 = k then u else D 0) = v
    rw [if_neg (by omega), hD]
  · intro i h1 h2
    show IsKind _ _ _ (if i = k then u else D i)
    by_cases e : i = k
    · subst e
      rw [if_pos rfl]
      exact ((hu.mono (by omega)).setCell (p := ⟨w1.heap.size, _, none⟩) (by show w1.heap.size < _; omega) _).setCell (p := ⟨w1.heap.size, _, none⟩) (by show w1.heap.size < _; omega) _
    · rw [if_neg e]
      exact (((hK i h1 (by omega)).below hb).setCell (p := ⟨w1.heap.size, _, none⟩) (by show w1.heap.size < _; omega) _).setCell (p := ⟨w1.heap.size, _, none⟩) (by show w1.heap.size < _; omega) _
  · exact only_set (p := ⟨w1.heap.size, k * 2 + 1, none⟩) (only_set (p := ⟨w1.heap.size, k * 2, none⟩) (grown_trans hg (grown_any (grown_of_below hb) _)) (.inl rfl) _) (.inl rfl) _

set_option maxHeartbeats 8000000 in
set_option maxRecDepth 100000 in
theorem fnMangleForCaseTable_walk (a0 a1 : Bool) (a2 : Int) (a3 : Option Addr) (len3 cap3 : Nat) (z3 : List Int) (w : World) (w2 : (Lit.int .i8 a2).wf = true) (w3 : IsRow .i8 w a3 len3 cap3 z3) :
    Calls Try.prog 5 #[.bool a0, .bool a1, .int .i8 a2, .slice a3 len3 cap3] w fun e w' => e = .returned (.bool true) ∧ Below w.heap.size w w' := by
  obtain ⟨l2, u2⟩ := bounds_i8 w2
  clear w2
  have HR := Lib.hid w3
  clear w3
  by_cases hbig : 1048576 < len3
  · go_enter Try.func5, Try.ntmps5
    go_wp2_with (go_at_call 17; refine (zz17_large _ _ _ _ _ _ _ hbig).mono ?_; rintro e w' ⟨rfl, rfl⟩)
    go_ret
    exact ⟨rfl, Below.refl _ _⟩
  have hle : len3 ≤ 1048576 := by omega
  clear hbig
  by_cases hmid : 65536 < len3
  · go_enter Try.func5, Try.ntmps5
    go_wp2_with (go_at_call 17; refine (zz17_small _ _ _ _ _ _ _ hle).mono ?_; rintro e w' ⟨rfl, rfl⟩)
    go_ret
    exact ⟨rfl, Below.refl _ _⟩
  have hn : len3 ≤ 65536 := by omega
  clear hmid
  obtain ⟨m1, m2, m3, m4⟩ := tmod9 a2
  have M1 := Lib.hid m1
  have M2 := Lib.hid m2
  clear m1 m2
  obtain ⟨i0, hi0, hz0, hz1, hz2⟩ := info_parts info32
  have HI := Lib.hid (And.intro hi0 (And.intro hz0 (And.intro hz1 hz2)))
  clear hi0 hz0 hz1 hz2
  go_enter Try.func5, Try.ntmps5
  go_upto_if 31 with (go_at_call 17; refine (zz17_small _ _ _ _ _ _ _ hle).mono ?_; rintro e w' ⟨rfl, rfl⟩)
  go_cut [9] (fun s9 wx => CutSh a2 w s9 wx)
  case first =>
    as_aux_lemma =>
      by_cases hneg : a2.tmod 9 < 0
      · go_wp2_with fail
        go_meet
        exact ⟨by rw [M1.out hneg], rfl⟩
      · have hneg2 : 0 ≤ a2.tmod 9 := by omega
        go_wp2_with fail
        go_meet
        exact ⟨by rw [M2.out hneg], rfl⟩
  case rest =>
    obtain ⟨rfl, hwe⟩ := hcut
    obtain rfl : w = wc := hwe.symm
    have hshl := shp_le a2
    go_upto_if 36 with fail
    go_cut [] (fun wx => CutT w a0 wx)
    case first =>
      as_aux_lemma =>
        have hS : ForAt (w.alloc (.cells #[.nilIface, .int .i32 0, .nilIface, .int .i32 0, .nilIface, .int .i32 0, .nilIface, .int .i32 0, .bool false, .bool false] 51)) w.heap.size .nilIface 0 .nilIface 0 := ⟨_, Has.new _ _ _ rfl, rfl, rfl, rfl, rfl, rfl⟩
        cases a0
        · go_wp2_with fail
          go_meet
          exact ⟨_, _, hS, .inl ⟨rfl, rfl⟩, (Below.refl _ _).alloc (Nat.le_refl _) _⟩
        · go_wp2_with fail
          refine (ident_any 12 1 _).mono ?_
          rintro e w2 ⟨v, rfl, hv, hb2⟩
          have hS2 := hS.up hb2
          have HV := Lib.hid hv
          obtain ⟨vq, rfl, hvq, hvc⟩ := hv
          have q2 := hS2.c2
          have q3 := hS2.c3
          have f2 := hS2.frozen 2
          have f3 := hS2.frozen 3
          have HS2 := Lib.hid hS2
          have H2 := Lib.hid hb2
          clear hS hS2 hb2 hvc
          go_wp2_with fail
          go_meet
          refine ⟨_, _, HS2.out.set _ _, .inr ⟨rfl, rfl, ?_⟩, ?_⟩
          · refine (HV.out.mono (by simp)).same fun i h1 _ => ?_
            rw [Below.heap_setCell _ _ _ i (by show i ≠ w.heap.size; omega), Below.heap_setCell _ _ _ i (by show i ≠ w.heap.size; omega)]
          · exact ((((Below.refl _ _).alloc (Nat.le_refl _) _).trans (H2.out.mono (by simp))).setCell (p := ⟨w.heap.size, 2, none⟩) (Nat.le_refl _) _).setCell (p := ⟨w.heap.size, 3, none⟩) (Nat.le_refl _) _
    case rest =>
      obtain ⟨w1, rfl⟩ : ∃ w1 : World, w1 = wc := ⟨_, rfl⟩
      obtain ⟨T, TL, hS1, hT1, hb1⟩ := hcut
      have HS1 := Lib.hid hS1
      have HT1 := Lib.hid hT1
      have H1 := Lib.hid hb1
      have hl1 := hS1.lt
      clear hS1 hT1 hb1
      go_upto_if 41 with fail
      go_cut [11, 12] (fun s11 s12 wx => CutB w w.heap.size (shp a2) len3 a0 a1 z3 s11 s12 wx)
      case first =>
        as_aux_lemma =>
          cases a1
          · go_wp2_with fail
            refine (first_any (shp a2) hshl 16777216 _).mono ?_
            rintro e w2 ⟨v, rfl, hone, hsh, hb2⟩
            have hS2 := HS1.out.up hb2
            have q6 := hS2.c6
            have q7 := hS2.c7
            have f6 := hS2.frozen 6
            have f7 := hS2.frozen 7
            have hst := hS2.store v hone
            have HSH := Lib.hid hsh
            have H2 := Lib.hid hb2
            clear hS2 hsh hb2
            go_wp2_with fail
            go_meet
            exact cutB_single rfl HS1.out HT1.out H1.out HSH.out H2.out
          · obtain ⟨n, hnn, hnl⟩ : ∃ n : Nat, 1 + (len3 : Int) = (n : Int) ∧ n = 1 + len3 := ⟨1 + len3, by omega, rfl⟩
            have HN := Lib.hid hnl
            have hn1 : 1 ≤ n := by omega
            have hn2 : n ≤ 65537 := by omega
            clear hnl
            go_wp2_with (at_make; refine wpList_make_full _ rfl (.tmp 45) (.tmp 45) 33 rfl w1.heap.size 32 i0 (.agg #[.nilIface, .int .i32 0]) 2 Try.underlying33 HI.out.1 HI.out.2.1 HI.out.2.2.1 _ _ _ _ n rfl rfl rfl rfl (by rw [HI.out.2.2.2]; omega) (by unfold maxLen; omega) (Nat.le_refl _) ?_; intro w2 hown hgrow)
            refine (first_any (shp a2) hshl 1 _).mono ?_
            rintro e w3 ⟨v, rfl, hone, hsh, hb3⟩
            have r0 : Row w2 w1.heap.size 32 (n * 2) (sc (fun _ => .nilIface) (fun _ => 0)) := row_made (size := 2) rfl (by decide) _ (fun i _ => by
              show (#[Value.nilIface, Value.int .i32 0] : Array Value)[i % 2]? = _
              unfold sc
              have : i % 2 = 0 ∨ i % 2 = 1 := by omega
              rcases this with h | h <;> rw [h] <;> rfl) hown
            have hb12 : Below w1.heap.size w1 w2 := (Below.refl _ _).grown hgrow (Nat.le_refl _) (fun k hk => by cases hk)
            have r3 := r0.below hb3 r0.lt
            have hlt2 := r0.lt
            have d0 := r3.cell (i := 0) (by omega)
            have d1 := r3.cell (i := 1) (by omega)
            have z0 := r3.frozen 0
            have z1 := r3.frozen 1
            have hst : (store ⟨w1.heap.size, 0, none⟩ v).run Try.prog w3 = .ok () (w3.setCell ⟨w1.heap.size, 0, none⟩ v) := by
              rw [run_store Try.prog w3 _ v _ hone]
              simp [d0, z0]
            have HSH := Lib.hid (And.intro hsh (And.intro hb12 (And.intro hb3 r3)))
            clear hown hgrow r0 r3 hsh hb12 hb3
            go_wp2_with fail
            go_loopw [14] (fun i wr => LoopC w1 w3 n v z3 i wr) (fun i _ => n - (intOf i).toNat)
            case atStart => exact loopC_start hn1 HSH.out.2.2.2
            case round =>
              obtain ⟨k, D, hk1, hkn, rfl, hr, hD, hK, hg⟩ := hrel
              have hbr : Below w1.heap.size w1 wr := ((HSH.out.2.1.trans (HSH.out.2.2.1.mono (by omega))).trans (((Below.refl w1.heap.size w3).setCell (p := ⟨w1.heap.size, 0, none⟩) (Nat.le_refl _) v).setCell (p := ⟨w1.heap.size, 1, none⟩) (Nat.le_refl _) (.int .i32 1))).trans (below_of_grown hg (by have := HSH.out.2.2.1.size; simp [World.setCell]; omega) fun x hx => by cases hx; exact Nat.le_refl _)
              have HBR := Lib.hid hbr
              have HRr := Lib.hid hr
              have HKr := Lib.hid (And.intro hD (And.intro hK hg))
              clear hbr hD hK hg hst
              by_cases hlt : k < n
              · obtain ⟨x, c, rfl, hc1, hcz, cl, cu⟩ := (HR.out.below (H1.out.trans (HBR.out.mono (by omega)))).at (i := k - 1) (by have := HN.out; omega)
                have HCZ := Lib.hid hcz
                have hto : ((k : Int) - 1).toNat = k - 1 := by omega
                have d0 := hr.cell (i := k * 2) (by omega)
                have d1 := hr.cell (i := k * 2 + 1) (by omega)
                have z0 := hr.frozen (k * 2)
                have z1 := hr.frozen (k * 2 + 1)
                have hlr := hr.lt
                have hlen : k - 1 < len3 := by have := HN.out; omega
                clear hcz hr
                go_wp2_with fail
                refine (norm_any c _ cl cu).mono ?_
                rintro e w' ⟨rfl, rfl⟩
                go_wp2_with fail
                refine (make_any (norm c) (norm_le c) _ _).mono ?_
                rintro e wm ⟨u, rfl, hu, hbm⟩
                have hrm := HRr.out.below hbm HRr.out.lt
                have e0 := hrm.cell (i := k * 2) (by omega)
                have e1 := hrm.cell (i := k * 2 + 1) (by omega)
                have f0 := hrm.frozen (k * 2)
                have f1 := hrm.frozen (k * 2 + 1)
                have hst : (store ⟨w1.heap.size, k * 2, none⟩ u).run Try.prog wm = .ok () (wm.setCell ⟨w1.heap.size, k * 2, none⟩ u) := by
                  rw [run_store Try.prog wm _ u _ hu.one]
                  simp [e0, f0]
                have HU := Lib.hid (And.intro hu hbm)
                clear hrm hu hbm d0 d1 z0 z1
                go_wp2_with fail
                have hnext := loopC_next hk1 hlt HRr.out HKr.out.1 HKr.out.2.1 HKr.out.2.2 HU.out.2 (by rw [← HCZ.out]; exact HU.out.1)
                refine ⟨?_, by simp [intOf]; omega⟩
                have e : ((k : Int) + 1) = ((k + 1 : Nat) : Int) := by omega
                rw [← e] at hnext
                exact hnext
              · obtain rfl : n = k := by omega
                have hS1r := HS1.out.same (HBR.out.block _ hl1)
                have q6 := fun o => (hS1r.alloc o).c6
                have q7 := fun o => (hS1r.alloc o).c7
                have f6 := fun o => (hS1r.alloc o).frozen 6
                have f7 := fun o => (hS1r.alloc o).frozen 7
                have hlr := hr.lt
                clear hr hS1r
                go_wp2_with fail
                go_meet
                exact cutB_block rfl HS1.out HT1.out H1.out HN.out (by omega) hlt2 HSH.out.1 HSH.out.2.1 HSH.out.2.2.1 HKr.out.2.2 (HRr.out.congr (sc_congr fun i hi => ⟨rfl, if_pos hi⟩)) HKr.out.1 HKr.out.2.1
      case rest =>
        obtain ⟨w4, rfl⟩ : ∃ w4 : World, w4 = wc := ⟨_, rfl⟩
        clear HS1 HT1 H1 hl1
        obtain ⟨T, TL, Tb, qb, T0, q, n, rfl, hnn, hS, hT, hf, hsh, hbody, hblk, hb⟩ := hcut
        have hn1 : 1 ≤ n := by rw [hnn]; split <;> omega
        have hn2 : n ≤ 65537 := by rw [hnn]; split <;> omega
        have HN := Lib.hid hnn
        have HS := Lib.hid (And.intro hS (And.intro hT (And.intro hf (And.intro hsh hbody))))
        have HBLK := Lib.hid hblk
        have HB := Lib.hid hb
        clear hnn hS hT hf hsh hbody hblk hb
        go_upto_region 25 with fail
        go_cut [88] (fun s88 wx => CutZ (decide (a1 = true ∧ 2 ≤ n)) w4 s88 wx)
        case first =>
          as_aux_lemma =>
            cases a1
            · go_wp2_with fail
              go_meet
              exact ⟨by simp, rfl⟩
            · go_wp2_with fail
              go_meet
              refine ⟨?_, rfl⟩
              congr 1
              simp
              omega
        case rest =>
          obtain ⟨rfl, hwe⟩ := hcut
          obtain rfl : w4 = wc := hwe.symm
          go_upto_if 88 with fail
          go_cut [15] (fun s15 wx => CutZ (secB a1 n z3) w4 s15 wx)
          case first =>
            as_aux_lemma =>
              by_cases h2 : a1 = true ∧ 2 ≤ n
              · obtain ⟨x, c, rfl, hc1, hcz, cl, cu⟩ := (HR.out.below HB.out).at (i := 0) (by have := HN.out; rw [if_pos h2.1] at this; omega)
                have hc2 : w4.cell? x = some (.int .i8 c) := by simpa [Addr.add] using hc1
                have hd : decide (a1 = true ∧ 2 ≤ n) = true := decide_eq_true h2
                have hlen : 0 < len3 := by have := HN.out; rw [if_pos h2.1] at this; omega
                have HCZ := Lib.hid hcz
                have H2 := Lib.hid h2
                clear hcz hc1 h2
                rw [hd]
                clear hd
                go_wp2_with fail
                refine (norm_any c _ cl cu).mono ?_
                rintro e w' ⟨rfl, rfl⟩
                go_wp2_with fail
                refine (model_any (norm c) _).mono ?_
                rintro e w' ⟨rfl, rfl⟩
                go_wp2_with fail
                go_meet
                refine ⟨?_, rfl⟩
                unfold secB sec
                rw [if_pos H2.out, HCZ.out]
              · have hd : decide (a1 = true ∧ 2 ≤ n) = false := decide_eq_false h2
                have H2 := Lib.hid h2
                clear h2
                rw [hd]
                clear hd
                go_wp2_with fail
                go_meet
                refine ⟨?_, rfl⟩
                unfold secB sec
                rw [if_neg H2.out]
                rfl
          case rest =>
            obtain ⟨rfl, hwe2⟩ := hcut
            obtain rfl : w4 = wc := hwe2.symm
            go_wp2_with fail
            refine (mangle_any w.heap.size w.heap.size (shp a2) w4.heap.size n (sec a1 n z3) Tb qb T0 q T u11 TL a0 w4 HS.out.1 HS.out.2.1 HS.out.2.2.1 HS.out.2.2.2.1 HS.out.2.2.2.2 (Nat.le_refl _) (Nat.le_refl _)).mono ?_
            rintro e w5 ⟨rfl, hres⟩
            rcases hres with ⟨h4, hb5⟩ | ⟨h3, hF⟩
            · as_aux_lemma =>
                have hd : decide ((3 : Int) < (shp a2 : Int)) = true := by simp; omega
                have hS5 := HS.out.1.up hb5
                have c2 := hS5.c2
                have c3 := hS5.c3
                have H5 := Lib.hid hb5
                clear hS5 hb5
                go_upto_if 98 with fail
                go_cut [] (fun wx => CutKeep w4 wx)
                case first =>
                  as_aux_lemma =>
                    rcases HS.out.2.1 with ⟨rfl, rfl⟩ | ⟨rfl, rfl, hid⟩
                    · have t5 := nn47
                      go_wp2_with fail
                      go_meet
                      exact H5.out
                    · have HID := Lib.hid hid
                      clear hid
                      go_wp2_with fail
                      refine (isIdent_yes 0 T 12 1 _ (HID.out.below H5.out)).mono ?_
                      rintro e w6 ⟨rfl, hb6⟩
                      have H6 := Lib.hid hb6
                      clear hb6
                      go_wp2_with fail
                      go_meet
                      exact H5.out.trans (H6.out.mono H5.out.size)
                case rest =>
                  obtain ⟨w7, rfl⟩ : ∃ w7 : World, w7 = wc := ⟨_, rfl⟩
                  have hb7 : Below w4.heap.size w4 w7 := hcut
                  have hS7 := HS.out.1.up hb7
                  have c6 := hS7.c6
                  have c7 := hS7.c7
                  have H7 := Lib.hid hb7
                  clear hcut c2 c3 hS7 hd
                  rcases HBLK.out with ⟨rfl, rfl⟩ | ⟨rfl, b, rfl, rfl, hB, hc1⟩
                  · clear hb7
                    go_wp2_with fail
                    go_ret
                    exact ⟨rfl, HB.out.trans (H7.out.mono HB.out.size)⟩
                  · have hB7 := hB.below hb7 hB.lt
                    have hc7 : w7.cell? ⟨b, 1, none⟩ = some (.int .i32 1) := by rw [hb7.cell (p := ⟨b, 1, none⟩) (World.block_lt_of_cell? w4 _ hc1), hc1]
                    have t6 := ep26
                    clear hB hc1 hb7
                    go_wp2_with fail
                    refine (blockOf_yes qb _ _).mono ?_
                    rintro e w8 ⟨rfl, hb8⟩
                    have hB8 := hB7.below hb8 hB7.lt
                    have r0 := hB8.cell
                    have r1 : w8.cell? ⟨b, 1, none⟩ = some (.int .i32 1) := by rw [hb8.cell (p := ⟨b, 1, none⟩) (World.block_lt_of_cell? w7 _ hc7), hc7]
                    have hn0 : decide ((0 : Int) < (n : Int)) = true := by simp; omega
                    have H8 := Lib.hid hb8
                    clear hB7 hB8 hb8
                    go_wp2_with fail
                    go_ret
                    exact ⟨rfl, HB.out.trans ((H7.out.trans (H8.out.mono H7.out.size)).mono HB.out.size)⟩
            · as_aux_lemma =>
                obtain ⟨T', TL', v, l, hS5, hD, hTok, hb5⟩ := hF
                have hd : decide ((3 : Int) < (shp a2 : Int)) = false := by simp; omega
                have hc : shp a2 = 0 ∨ shp a2 = 1 ∨ shp a2 = 2 ∨ shp a2 = 3 := by omega
                have HC := Lib.hid hc
                have c2 := hS5.c2
                have c3 := hS5.c3
                have HS5 := Lib.hid (And.intro hS5 (And.intro hD hTok))
                have H5q := Lib.hid (show w4.heap.size ≤ w5.heap.size from hb5.size)
                have H5 := Lib.hid hb5
                clear hS5 hD hTok hb5 hc
                go_upto_region 39 with fail
                go_cut [16] (fun s16 wx => CutZ (wantB (shp a2)) w5 s16 wx)
                case first =>
                  as_aux_lemma =>
                    rcases HC.out with h | h | h | h
                    · have e0 : ((shp a2 : Int) == 0) = true := by rw [h]; rfl
                      have e1 : ((shp a2 : Int) == 1) = false := by rw [h]; rfl
                      have HE := Lib.hid (show wantB (shp a2) = true by rw [h]; rfl)
                      clear h
                      go_wp2_with fail
                      go_meet
                      exact ⟨by rw [HE.out], rfl⟩
                    · have e0 : ((shp a2 : Int) == 0) = false := by rw [h]; rfl
                      have e1 : ((shp a2 : Int) == 1) = true := by rw [h]; rfl
                      have HE := Lib.hid (show wantB (shp a2) = true by rw [h]; rfl)
                      clear h
                      go_wp2_with fail
                      go_meet
                      exact ⟨by rw [HE.out], rfl⟩
                    · have e0 : ((shp a2 : Int) == 0) = false := by rw [h]; rfl
                      have e1 : ((shp a2 : Int) == 1) = false := by rw [h]; rfl
                      have HE := Lib.hid (show wantB (shp a2) = false by rw [h]; rfl)
                      clear h
                      go_wp2_with fail
                      go_meet
                      exact ⟨by rw [HE.out], rfl⟩
                    · have e0 : ((shp a2 : Int) == 0) = false := by rw [h]; rfl
                      have e1 : ((shp a2 : Int) == 1) = false := by rw [h]; rfl
                      have HE := Lib.hid (show wantB (shp a2) = false by rw [h]; rfl)
                      clear h
                      go_wp2_with fail
                      go_meet
                      exact ⟨by rw [HE.out], rfl⟩
                case rest =>
                  obtain ⟨rfl, hwe3⟩ := hcut
                  obtain rfl : w5 = wc := hwe3.symm
                  go_upto_region 40 with fail
                  go_cut [17] (fun s17 wx => CutZ (replB (shp a2)) w5 s17 wx)
                  case first =>
                    as_aux_lemma =>
                      rcases HC.out with h | h | h | h
                      · have e1 : ((shp a2 : Int) == 1) = false := by rw [h]; rfl
                        have e2 : ((shp a2 : Int) == 2) = false := by rw [h]; rfl
                        have HE := Lib.hid (show replB (shp a2) = false by rw [h]; rfl)
                        clear h
                        go_wp2_with fail
                        go_meet
                        exact ⟨by rw [HE.out], rfl⟩
                      · have e1 : ((shp a2 : Int) == 1) = true := by rw [h]; rfl
                        have e2 : ((shp a2 : Int) == 2) = false := by rw [h]; rfl
                        have HE := Lib.hid (show replB (shp a2) = true by rw [h]; rfl)
                        clear h
                        go_wp2_with fail
                        go_meet
                        exact ⟨by rw [HE.out], rfl⟩
                      · have e1 : ((shp a2 : Int) == 1) = false := by rw [h]; rfl
                        have e2 : ((shp a2 : Int) == 2) = true := by rw [h]; rfl
                        have HE := Lib.hid (show replB (shp a2) = true by rw [h]; rfl)
                        clear h
                        go_wp2_with fail
                        go_meet
                        exact ⟨by rw [HE.out], rfl⟩
                      · have e1 : ((shp a2 : Int) == 1) = false := by rw [h]; rfl
                        have e2 : ((shp a2 : Int) == 2) = false := by rw [h]; rfl
                        have HE := Lib.hid (show replB (shp a2) = false by rw [h]; rfl)
                        clear h
                        go_wp2_with fail
                        go_meet
                        exact ⟨by rw [HE.out], rfl⟩
                  case rest =>
                    obtain ⟨rfl, hwe4⟩ := hcut
                    obtain rfl : w5 = wc := hwe4.symm
                    go_wp2_with fail
                    refine (test_yes a0 (wantB (shp a2)) T' TL' _ HS5.out.2.2).mono ?_
                    rintro e w6 ⟨rfl, hb6⟩
                    have hS6 := HS5.out.1.up hb6
                    have c6 := hS6.c6
                    have c7 := hS6.c7
                    have H6 := Lib.hid hb6
                    clear hS6 hb6 c2 c3 hd
                    go_wp2_with fail
                    have hD6 : Done w4.heap.size w6 n (secB a1 n z3) (replB (shp a2)) v l u11 := HS5.out.2.1.same fun i hi => H6.out.block i (Nat.lt_of_lt_of_le hi H5q.out)
                    refine (check13_any w4.heap.size n (secB a1 n z3) (replB (shp a2)) v l u11 _ (by omega) hD6).mono ?_
                    rintro e w8 ⟨rfl, hb8⟩
                    go_wp2_with fail
                    go_ret
                    exact ⟨rfl, HB.out.trans (H5.out.trans ((H6.out.trans (hb8.mono H6.out.size)).mono (Nat.le_trans HB.out.size H5.out.size)))⟩

end Go.Proofs.Ytolpgogmbebmcaa
