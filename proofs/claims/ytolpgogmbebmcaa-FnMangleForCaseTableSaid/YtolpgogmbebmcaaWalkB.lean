/-
  The walk of FnDropFirstStatementDrainScript: it returns true for every input; conditions: those of the row.
-/
import Derived.Test.YtolpgogmbebmcaaDrain
namespace Go.Proofs.Ytolpgogmbebmcaa
open Go.RowKit

theorem Pair.grown {w w' : World} {g : Nat} {t : TypeId} {a b : Value} {row : Option Nat} (h : Pair w g t a b) (hg : w.grownBy w' row) (hne : some g ≠ row) : Pair w' g t a b := (hg.block g h.lt hne).trans h
theorem Pair.far {w : World} {g : Nat} {t : TypeId} {a b : Value} (h : Pair w g t a b) {p : Addr} (hp : g ≠ p.block) (u : Value) : Pair (w.setCell p u) g t a b := (Below.heap_setCell w p u g hp).trans h

theorem IsRow.at {w : World} {A : Option Addr} {n cap : Nat} {zs : List Int} (h : IsRow .i8 w A n cap zs) {i : Nat} (hi : i < n) : ∃ x c, A = some x ∧ w.cell? (x.add i) = some (.int .i8 c) ∧ c = zs.getD i 0 ∧ -128 ≤ c ∧ c ≤ 127 := by
  rcases h with ⟨_, h, _⟩ | ⟨x, h0, h1, _, h3, h4, h5⟩
  · omega
  · exact ⟨x, _, h0, h4 i (by omega), rfl, bounds_i8 (h5 _ (by rw [List.getD_eq_getElem?_getD, List.getElem?_eq_getElem (by omega)]; exact List.getElem_mem _))⟩

def DrainRel (w w2 : World) (n kl : Nat) (D : Nat → Value) (s6 : Value) (wr : World) : Prop :=
  ∃ c : Nat, c ≤ n ∧ s6 = .int .i64 c ∧ Below w2.heap.size w2 wr ∧ Pair wr (w2.heap.size + 1) 32 (.iface 26 (.pointer (some ⟨w2.heap.size, 0, none⟩))) (.int .i32 16777216) ∧
    (∃ v l, Pair wr (w2.heap.size + 1 + 1) 32 v (.int .i32 l)) ∧ Left wr w2.heap.size w.heap.size n (n - c) D ∧ (n - 1 ≤ c → 2 ≤ n → 20 ≤ kl)

set_option maxHeartbeats 4000000 in
set_option maxRecDepth 100000 in
theorem fnDropFirstStatementDrainScript_walk (a0 : Option Addr) (len0 cap0 : Nat) (z0 : List Int) (w : World) (w0 : IsRow .i8 w a0 len0 cap0 z0) :
    Calls Try.prog 4 #[.slice a0 len0 cap0] w fun e w' => e = .returned (.bool true) ∧ Below w.heap.size w w' := by
  have HR := Lib.hid w0
  clear w0
  by_cases hbig : 1048576 < len0
  · go_enter Try.func4, Try.ntmps4
    go_wp2_with (go_at_call 14; refine (zz14_large _ _ _ _ hbig).mono ?_; rintro e w' ⟨rfl, rfl⟩)
    go_ret
    exact ⟨rfl, Below.refl _ _⟩
  have hle : len0 ≤ 1048576 := by omega
  clear hbig
  by_cases hmid : 4096 < len0
  · go_enter Try.func4, Try.ntmps4
    go_wp2_with (go_at_call 14; refine (zz14_small _ _ _ _ hle).mono ?_; rintro e w' ⟨rfl, rfl⟩)
    go_ret
    exact ⟨rfl, Below.refl _ _⟩
  have hn : len0 ≤ 4096 := by omega
  clear hmid
  go_enter Try.func4, Try.ntmps4
  go_wp2_with (go_at_call 14; refine (zz14_small _ _ _ _ hle).mono ?_; rintro e w' ⟨rfl, rfl⟩)
  refine (build_any a0 len0 cap0 z0 _ (by omega) HR.out).mono ?_
  rintro e w2 ⟨A, D, rfl, hA, hK, hb2⟩
  have HA := Lib.hid hA
  have HK := Lib.hid hK
  have H2 := Lib.hid hb2
  clear hA hK hb2
  have hsz := H2.out.size
  go_wp2_with fail
  go_loopw [6] (fun s6 wr => DrainRel w w2 len0 (norm (z0.getD (len0 - 1) 0)) D s6 wr) (fun s6 _ => len0 + 1 - (intOf s6).toNat)
  case atStart =>
    refine ⟨0, Nat.zero_le _, rfl, (((Below.refl _ _).alloc (Nat.le_refl _) _).alloc (by simp) _).alloc (by simp; omega) _, ?_, ⟨.iface 26 (.pointer (some ⟨w2.heap.size, 0, none⟩)), 16777216, ?_⟩, ?_, fun h1 h2 => by omega⟩
    · have := (Pair.new (w2.alloc (.cells #[.slice A len0 len0, .int .i32 0] 36)) 32 (.iface 26 (.pointer (some ⟨w2.heap.size, 0, none⟩))) (.int .i32 16777216)).alloc (.cells #[.iface 26 (.pointer (some ⟨w2.heap.size, 0, none⟩)), .int .i32 16777216] 32)
      simpa using this
    · have := Pair.new ((w2.alloc (.cells #[.slice A len0 len0, .int .i32 0] 36)).alloc (.cells #[.iface 26 (.pointer (some ⟨w2.heap.size, 0, none⟩)), .int .i32 16777216] 32)) 32 (.iface 26 (.pointer (some ⟨w2.heap.size, 0, none⟩))) (.int .i32 16777216)
      simpa using this
    · refine ⟨A, ((Blk.alloc (heap_alloc_new w2 _) _).alloc _), by omega, by omega, fun hm => ?_⟩
      rcases HA.out with ⟨_, h⟩ | ⟨rfl, hR⟩
      · omega
      · exact ⟨by rw [show (len0 - (len0 - 0)) * 2 = 0 by omega], by have := hR.lt; omega, ((hR.alloc _).alloc _).alloc _⟩
  case round =>
    obtain ⟨c, hc, rfl, hb, hp5, ⟨v0, l0, hp7⟩, hL, hi⟩ := hrel
    have q5 := hp5.c0
    have q6 := hp5.c1
    have hd : decide ((c : Int) < (len0 : Int) + 2) = true := by simp; omega
    have HB := Lib.hid hb
    have HL := Lib.hid hL
    have HP7 := Lib.hid hp7
    have HP5 := Lib.hid hp5
    have HI := Lib.hid hi
    clear hb hL hp7 hp5 hi
    go_wp2_with fail
    refine (drain12 w2.heap.size w.heap.size len0 (len0 - c) (norm (z0.getD (len0 - 1) 0)) D 0 _ HL.out (fun h => ((HK.out (len0 - 1) (by omega)).mono (Nat.zero_le _)).below HB.out)).mono ?_
    rintro e w4 ⟨v, l, rfl, hone, hg, hend⟩
    have hp7 := HP7.out.grown hg (by simp; omega)
    have hp5 := HP5.out.grown hg (by simp)
    have q0 := hp7.c0
    have q1 := hp7.c1
    have f0 := hp7.frozen 0
    have f1 := hp7.frozen 1
    have hst := hp7.store v hone
    have HP57 := Lib.hid (And.intro hp5 hp7)
    have HG := Lib.hid hg
    clear hp5 hp7 hg q5 q6
    rcases hend with ⟨hm, hm2, rfl, rfl, hL'⟩ | ⟨hm, hk, hv, rfl⟩ | ⟨hm, ⟨q, rfl⟩, rfl⟩
    · obtain ⟨m, hmm, hm3⟩ : ∃ m, len0 - c - 1 = m ∧ len0 = c + 1 + m := ⟨len0 - c - 1, rfl, by omega⟩
      rw [hmm] at hL'
      have HM := Lib.hid hm3
      have HL4 := Lib.hid hL'
      have HM2 := Lib.hid hm2
      clear hmm hm3 hL' hm2 HL
      have t3 := np26
      go_wp2_with fail
      refine (blockOf_yes w2.heap.size _ _).mono ?_
      rintro e w6 ⟨rfl, hb6⟩
      have hL5 : Left _ w2.heap.size w.heap.size len0 m D := (HL4.out.same (w' := (w4.setCell ⟨w2.heap.size + 1 + 1, 0, none⟩ (.iface 26 (.pointer (some ⟨w2.heap.size, 0, none⟩)))).setCell ⟨w2.heap.size + 1 + 1, 1, none⟩ (.int .i32 16777216)) (by
        rw [Below.heap_setCell _ _ _ w2.heap.size (by show w2.heap.size ≠ w2.heap.size + 1 + 1; omega), Below.heap_setCell _ _ _ w2.heap.size (by show w2.heap.size ≠ w2.heap.size + 1 + 1; omega)]) (fun _ => by
        rw [Below.heap_setCell _ _ _ w.heap.size (by show w.heap.size ≠ w2.heap.size + 1 + 1; omega), Below.heap_setCell _ _ _ w.heap.size (by show w.heap.size ≠ w2.heap.size + 1 + 1; omega)]))
      have hL6 := hL5.below hb6
      have hp7 := (HP57.out.2.set (.iface 26 (.pointer (some ⟨w2.heap.size, 0, none⟩))) (.int .i32 16777216))
      have hp76 := hp7.below hb6 hp7.lt
      have hp5 := (HP57.out.1.far (p := ⟨w2.heap.size + 1 + 1, 0, none⟩) (by show w2.heap.size + 1 ≠ w2.heap.size + 1 + 1; omega) (.iface 26 (.pointer (some ⟨w2.heap.size, 0, none⟩)))).far (p := ⟨w2.heap.size + 1 + 1, 1, none⟩) (by show w2.heap.size + 1 ≠ w2.heap.size + 1 + 1; omega) (.int .i32 16777216)
      have hp56 := hp5.below hb6 hp5.lt
      have HL6 := Lib.hid hL6
      obtain ⟨A', hB6, _, _, hA6⟩ := hL6
      have HA6 := Lib.hid hA6
      have r0 := hB6.cell
      have r1 := hp76.c0
      have r2 := hp76.c1
      have r3 := hp56.c0
      have r4 := hp56.c1
      have r5 := hp56.frozen 0
      have r6 := hp56.frozen 1
      have hml := HM.out
      have hnq : ((m : Int) != (len0 : Int) - ((c : Int) + 1)) = false := by simp; omega
      have hml1 : c + 1 + m ≤ len0 := by omega
      have HP76 := Lib.hid hp76
      have HP56 := Lib.hid hp56
      have H6 := Lib.hid hb6
      clear hml hA6 hp76 hp56 hp5 hp7 hb6 hL5 hB6 hst q0 q1 f0 f1
      go_wp2_with fail
      go_loop [10] (fun s10 => ∃ j : Nat, j ≤ m ∧ s10 = .int .i64 j) (fun s10 => m - (intOf s10).toNat)
      case atStart => exact ⟨0, Nat.zero_le _, rfl⟩
      case round =>
        obtain ⟨j, hj, rfl⟩ := hrel
        by_cases hlt : j < m
        · obtain ⟨hAe, _, hRo⟩ := HA6.out (by omega)
          have hml := HM.out
          have q3 : w6.cell? ⟨w.heap.size, (len0 - m) * 2 + j * 2 + 1, none⟩ = some (.int .i32 ((c : Int) + 1 + j + 1)) := by
            have := hRo.cell (i := (len0 - m + j) * 2 + 1) (by omega)
            rw [sc_odd] at this
            rw [show (len0 - m) * 2 + j * 2 + 1 = (len0 - m + j) * 2 + 1 by omega, this]
            show some (Value.int .i32 (((len0 - m + j : Nat) : Int) + 1)) = _
            rw [show ((len0 - m + j : Nat) : Int) + 1 = (c : Int) + 1 + j + 1 by omega]
          subst hAe
          clear hml hRo
          go_wp2_with fail
          exact ⟨⟨j + 1, by omega, by go_num⟩, by simp [intOf]; omega⟩
        · go_wp2_with fail
          have hml := HM.out
          have hB4 : Below w2.heap.size w2 w4 := HB.out.trans (below_of_grown HG.out HB.out.size fun x hx => by cases hx; exact Nat.le_refl _)
          have hs4 := hB4.size
          have hB5 := (hB4.setCell (p := ⟨w2.heap.size + 1 + 1, 0, none⟩) (by show w2.heap.size ≤ w2.heap.size + 1 + 1; omega) (.iface 26 (.pointer (some ⟨w2.heap.size, 0, none⟩)))).setCell (p := ⟨w2.heap.size + 1 + 1, 1, none⟩) (by show w2.heap.size ≤ w2.heap.size + 1 + 1; omega) (.int .i32 16777216)
          have hB6 := hB5.trans (H6.out.mono hB5.size)
          refine ⟨⟨c + 1, by omega, by go_num, (hB6.setCell (p := ⟨w2.heap.size + 1, 0, none⟩) (by show w2.heap.size ≤ w2.heap.size + 1; omega) _).setCell (p := ⟨w2.heap.size + 1, 1, none⟩) (by show w2.heap.size ≤ w2.heap.size + 1; omega) _, HP56.out.set _ _,
            ⟨_, _, (HP76.out.far (p := ⟨w2.heap.size + 1, 0, none⟩) (by show w2.heap.size + 1 + 1 ≠ w2.heap.size + 1; omega) _).far (p := ⟨w2.heap.size + 1, 1, none⟩) (by show w2.heap.size + 1 + 1 ≠ w2.heap.size + 1; omega) _⟩, ?_, fun h1 h2 => ?_⟩, by simp [intOf]; omega⟩
          · rw [show len0 - (c + 1) = m by omega]
            refine HL6.out.same ?_ fun _ => ?_
            · rw [Below.heap_setCell _ _ _ w2.heap.size (by show w2.heap.size ≠ w2.heap.size + 1; omega), Below.heap_setCell _ _ _ w2.heap.size (by show w2.heap.size ≠ w2.heap.size + 1; omega)]
            · rw [Below.heap_setCell _ _ _ w.heap.size (by show w.heap.size ≠ w2.heap.size + 1; omega), Below.heap_setCell _ _ _ w.heap.size (by show w.heap.size ≠ w2.heap.size + 1; omega)]
          · by_cases h3 : len0 - 1 ≤ c
            · exact HI.out h3 h2
            · exact HM2.out (by omega)
    · have HV := Lib.hid hv
      clear hv
      have hne : ((len0 : Int) == 16777216) = false := by simp; omega
      go_wp2_with fail
      refine (blockOf_any v _ _ HV.out).mono ?_
      rintro e w6 ⟨p, rfl, hb6⟩
      have hp7 := (HP57.out.2.set v (.int .i32 (len0 : Int)))
      have hp76 := hp7.below hb6 hp7.lt
      have r1 := hp76.c1
      have H6 := Lib.hid hb6
      have HP76 := Lib.hid hp76
      clear hp7 hp76 hb6 hst q0 q1 f0 f1
      have hB6 : Below w.heap.size w w6 := by
        have hB4 : Below w2.heap.size w2 w4 := HB.out.trans (below_of_grown HG.out HB.out.size fun x hx => by cases hx; exact Nat.le_refl _)
        have hB5 := (hB4.setCell (p := ⟨w2.heap.size + 1 + 1, 0, none⟩) (by show w2.heap.size ≤ w2.heap.size + 1 + 1; omega) v).setCell (p := ⟨w2.heap.size + 1 + 1, 1, none⟩) (by show w2.heap.size ≤ w2.heap.size + 1 + 1; omega) (.int .i32 (len0 : Int))
        exact H2.out.trans ((hB5.trans (H6.out.mono hB5.size)).mono hsz)
      obtain ⟨x, ch, rfl, hc1, hcz, cl, cu⟩ := (HR.out.below hB6).at (i := len0 - 1) (by omega)
      have HB6 := Lib.hid hB6
      have HCZ := Lib.hid hcz
      have hto : ((len0 : Int) - 1).toNat = len0 - 1 := by omega
      have hkk : decide (20 ≤ norm ch) = false := by rw [hcz]; exact decide_eq_false (by omega)
      have hfin : ((c : Int) + 1 == (len0 : Int) - 1) = true := by simp; omega
      clear hB6 hcz
      go_wp2_with fail
      refine (norm_any ch _ cl cu).mono ?_
      rintro e w' ⟨rfl, rfl⟩
      go_wp2_with fail
      refine (model_any (norm ch) _).mono ?_
      rintro e w' ⟨rfl, rfl⟩
      go_wp2_with fail
      go_ret
      exact ⟨rfl, HB6.out⟩
    · have hst2 := hst
      go_wp2_with fail
      refine (blockOf_no 76 _ _ _ (by decide)).mono ?_
      rintro e w6 ⟨rfl, hb6⟩
      have hp7 := (HP57.out.2.set (.iface 76 (.pointer (some ⟨q, 0, none⟩))) (.int .i32 16777216))
      have hp76 := hp7.below hb6 hp7.lt
      have r0 := hp76.c0
      have r1 := hp76.c1
      have H6 := Lib.hid hb6
      have HP76 := Lib.hid hp76
      have hB6 : Below w.heap.size w w6 := by
        have hB4 : Below w2.heap.size w2 w4 := HB.out.trans (below_of_grown HG.out HB.out.size fun x hx => by cases hx; exact Nat.le_refl _)
        have hB5 := (hB4.setCell (p := ⟨w2.heap.size + 1 + 1, 0, none⟩) (by show w2.heap.size ≤ w2.heap.size + 1 + 1; omega) (.iface 76 (.pointer (some ⟨q, 0, none⟩)))).setCell (p := ⟨w2.heap.size + 1 + 1, 1, none⟩) (by show w2.heap.size ≤ w2.heap.size + 1 + 1; omega) (.int .i32 16777216)
        exact H2.out.trans ((hB5.trans (H6.out.mono hB5.size)).mono hsz)
      have HB6 := Lib.hid hB6
      clear hp7 hp76 hb6 hst q0 q1 f0 f1 hB6
      obtain rfl : len0 = c := by omega
      by_cases h2 : 2 ≤ len0
      · have hkl := HI.out (by omega) h2
        obtain ⟨x, ch, rfl, hc1, hcz, cl, cu⟩ := (HR.out.below HB6.out).at (i := len0 - 1) (by omega)
        have hto : ((len0 : Int) - 1).toNat = len0 - 1 := by omega
        have hkk : decide (20 ≤ norm ch) = true := by rw [hcz]; exact decide_eq_true hkl
        have HCZ := Lib.hid hcz
        clear hcz hkl
        go_wp2_with fail
        refine (norm_any ch _ cl cu).mono ?_
        rintro e w' ⟨rfl, rfl⟩
        go_wp2_with fail
        refine (model_any (norm ch) _).mono ?_
        rintro e w' ⟨rfl, rfl⟩
        go_wp2_with fail
        refine (isEmpty_yes _ _ _).mono ?_
        rintro e w7 ⟨rfl, hb7⟩
        go_wp2_with fail
        go_ret
        exact ⟨rfl, HB6.out.trans (hb7.mono HB6.out.size)⟩
      · have h2' : decide ((2 : Int) ≤ (len0 : Int)) = false := by simp; omega
        go_wp2_with fail
        refine (isEmpty_yes _ _ _).mono ?_
        rintro e w7 ⟨rfl, hb7⟩
        go_wp2_with fail
        go_ret
        exact ⟨rfl, HB6.out.trans (hb7.mono HB6.out.size)⟩

end Go.Proofs.Ytolpgogmbebmcaa
