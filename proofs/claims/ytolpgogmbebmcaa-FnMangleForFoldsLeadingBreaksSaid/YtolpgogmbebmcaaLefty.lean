/-
  The contract of mangleFor at an if whose yes branch is a plain break, the first of what is left of a block, or the body itself; conditions: those that it names.
-/
import Derived.Test.YtolpgogmbebmcaaFacts
namespace Go.Proofs.Ytolpgogmbebmcaa
open Go.RowKit

/-- The body's first statement (wherever its slice begins), or the body itself, has this data. -/
def FirstAt (w : World) (bd : Value) (T0 q : Nat) : Prop :=
  (bd = .iface T0 (.pointer (some ⟨q, 0, none⟩)) ∧ ¬ T0 = 26) ∨
  ∃ g b o n cap c l, bd = .iface 26 (.pointer (some ⟨g, 0, none⟩)) ∧ Blk w g (.slice (some ⟨b, o, none⟩) n cap) c ∧ 1 ≤ n ∧ w.cell? ⟨b, o, none⟩ = some (.iface T0 (.pointer (some ⟨q, 0, none⟩))) ∧ w.cell? ⟨b, o + 1, none⟩ = some (.int .i32 l)

theorem firstAt_cases {w : World} {Tb qb q : Nat} (hf : FirstAt w (.iface Tb (.pointer (some ⟨qb, 0, none⟩))) 59 q) :
    ∃ P z, (∀ w, (Instr.typeAssert (.iface Tb (.pointer (some ⟨qb, 0, none⟩))) 28 26 true).run Try.prog w = .ok (.tuple #[P, .bool z]) w) ∧
      ((z = false ∧ Tb = 59 ∧ qb = q) ∨ (z = true ∧ ∃ g b o n cap c l, P = .pointer (some ⟨g, 0, none⟩) ∧ Tb = 26 ∧ qb = g ∧ Blk w g (.slice (some ⟨b, o, none⟩) n cap) c ∧ 1 ≤ n ∧ w.cell? ⟨b, o, none⟩ = some (.iface 59 (.pointer (some ⟨q, 0, none⟩))) ∧ w.cell? ⟨b, o + 1, none⟩ = some (.int .i32 l))) := by
  rcases hf with ⟨hb, _⟩ | ⟨g, b, o, n, cap, c, l, hb, h1, h2, h3, h4⟩
  · injection hb with h1 h2
    injection h2 with h2
    injection h2 with h2
    injection h2 with h2
    exact ⟨.pointer none, false, fun w => by rw [ta26, if_neg (by rw [h1]; decide)], .inl ⟨rfl, h1, h2⟩⟩
  · injection hb with e1 e2
    injection e2 with e2
    injection e2 with e2
    injection e2 with e2
    exact ⟨.pointer (some ⟨qb, 0, none⟩), true, fun w => by rw [ta26, if_pos e1], .inr ⟨rfl, g, b, o, n, cap, c, l, by rw [e2], e1, e2, h1, h2, h3, h4⟩⟩

def CutTestL (wc : World) (S : Nat) (T : Value) (TL : Int) (nx : Value) (nl : Int) (bd : Value) (BL : Int) (wx : World) : Prop :=
  ∃ T' TL', ForAt wx S T' TL' bd BL ∧ TestVal wx wc.heap.size T TL nx nl T' TL' ∧ wc.grownBy wx (some S)

def DropAt (g : Nat) (R : World → Value → Int → Prop) (wx : World) (e : Ending) (w' : World) : Prop := ∃ v l, e = .returned (.agg #[v, .int .i32 l]) ∧ v.oneCell' = true ∧ wx.grownBy w' (some g) ∧ R w' v l

/-- What the fold leaves: the new test, what comes of dropping the first statement; all else as it was. -/
def MPost (w : World) (S g xq : Nat) (T : Value) (TL XL : Int) (R : World → Value → Int → Prop) (e : Ending) (w' : World) : Prop :=
  e = .returned (.tuple #[]) ∧ ∃ T' TL' v l nx nl, ForAt w' S T' TL' v l ∧ R w' v l ∧ TestVal w' w.heap.size T TL nx nl T' TL' ∧ NotOf w w.heap.size (.iface 150 (.pointer (some ⟨xq, 0, none⟩))) XL nx nl w' ∧
    w.heap.size ≤ w'.heap.size ∧ w'.os = w.os ∧ w'.tape = w.tape ∧ w'.output = w.output ∧ ∀ i, i < w.heap.size → i ≠ S → i ≠ g → w'.heap[i]? = w.heap[i]?

theorem at_end {w w1 w3 w5 w6 : World} {S g xq : Nat} {T T' nx v bd : Value} {TL XL TL' nl l BL : Int} {R : World → Value → Int → Prop} (H1 : Below w.heap.size w w1) (HB3 : Below w1.heap.size w1 w3) (HG5 : w3.grownBy w5 (some S)) (HGR : w.grownBy w5 (some S)) (hg : w5.grownBy w6 (some g))
    (hgw : g < w.heap.size) (hd : R w6 v l) (hRS : ∀ wx x y v l, R wx v l → R ((wx.setCell ⟨S, 6, none⟩ x).setCell ⟨S, 7, none⟩ y) v l) (hS6 : ForAt w6 S T' TL' bd BL) (HTV : TestVal w5 w3.heap.size T TL nx nl T' TL') (HNO : NotOf w w1.heap.size (.iface 150 (.pointer (some ⟨xq, 0, none⟩))) XL nx nl w3) (hl : S < w.heap.size) :
    MPost w S g xq T TL XL R (.returned (.tuple #[])) ((w6.setCell ⟨S, 6, none⟩ v).setCell ⟨S, 7, none⟩ (.int .i32 l)) := by
  have hs1 := H1.size
  have hs3 := HB3.size
  have hs5 := HG5.size
  have hs6 := hg.size
  have hset : ∀ i, i ≠ S → ((w6.setCell ⟨S, 6, none⟩ v).setCell ⟨S, 7, none⟩ (.int .i32 l)).heap[i]? = w6.heap[i]? := fun i hi => by
    rw [Below.heap_setCell _ _ _ i (by show i ≠ S; exact hi), Below.heap_setCell _ _ _ i (by show i ≠ S; exact hi)]
  have h56 : ∀ i, i ≠ g → i < w5.heap.size → w6.heap[i]? = w5.heap[i]? := fun i h1 h2 => hg.block i h2 (by simpa using h1)
  have hsz : ((w6.setCell ⟨S, 6, none⟩ v).setCell ⟨S, 7, none⟩ (.int .i32 l)).heap.size = w6.heap.size := by simp [World.setCell]
  refine ⟨rfl, T', TL', v, l, nx, nl, hS6.setB v l, hRS _ _ _ _ _ hd, ?_, ?_, by omega, hg.os.trans HGR.os, hg.tape.trans HGR.tape, hg.output.trans HGR.output, ?_⟩
  · rcases HTV with hh | ⟨h0, h1, e, h2, h3, h4⟩
    · exact .inl hh
    · exact .inr ⟨h0, h1, e, h2, by omega, h4.same ((hset e (by omega)).trans (h56 e (by omega) h4.lt))⟩
  · rcases HNO with ⟨x, h1, h2, h3⟩ | hh
    · refine .inl ⟨x, h1, h2, (h3.same (by omega) fun i h4 h5 => ?_).mono (by omega)⟩
      exact ((hset i (by omega)).trans (h56 i (by omega) (by omega))).trans (HG5.block i h5 (by simp; omega))
    · exact .inr hh
  · intro i h1 h2 h3
    exact ((hset i h2).trans (h56 i h3 (by have := HGR.size; omega))).trans (HGR.block i h1 (by simpa using h2))

set_option maxHeartbeats 8000000 in
set_option maxRecDepth 100000 in
theorem mangle_at (S q kq xq g Tb qb : Nat) (T : Value) (TL XL YL BL : Int) (R : World → Value → Int → Prop) (w : World) (hS : ForAt w S T TL (.iface Tb (.pointer (some ⟨qb, 0, none⟩))) BL) (hf : FirstAt w (.iface Tb (.pointer (some ⟨qb, 0, none⟩))) 59 q)
    (hif : Has w q 65 #[.iface 150 (.pointer (some ⟨xq, 0, none⟩)), .int .i32 XL, .iface 60 (.pointer (some ⟨kq, 0, none⟩)), .int .i32 YL, .nilIface, .int .i32 0, .bool false, .bool false]) (hk : Has w kq 63 #[.pointer none])
    (hT : T = .nilIface ∨ ∃ Tt tq, T = .iface Tt (.pointer (some ⟨tq, 0, none⟩))) (hqS : q ≠ S) (hgS : g ≠ S) (hgw : g < w.heap.size)
    (hdrop : ∀ wx, w.grownBy wx (some S) → Calls Try.prog 26 #[.agg #[.iface Tb (.pointer (some ⟨qb, 0, none⟩)), .int .i32 BL], .agg #[.nilIface, .int .i32 0]] wx (DropAt g R wx))
    (hRS : ∀ wx x y v l, R wx v l → R ((wx.setCell ⟨S, 6, none⟩ x).setCell ⟨S, 7, none⟩ y) v l) :
    Calls Try.prog 27 #[.pointer (some ⟨S, 0, none⟩)] w (MPost w S g xq T TL XL R) := by
  have q6 := hS.c6
  have q7 := hS.c7
  have hl := hS.lt
  have HS := Lib.hid (And.intro hS (And.intro hif hk))
  have HB := Lib.hid hdrop
  have HR := Lib.hid hRS
  clear hif hS hk hdrop hRS
  obtain ⟨P, z, t0, hz⟩ := firstAt_cases hf
  clear hf
  have HZ := Lib.hid hz
  have HT := Lib.hid hT
  clear hz hT
  go_enter Try.func27, Try.ntmps27
  go_upto_region 2 with fail
  go_cut [32] (fun s32 wx => CutZ z (w.alloc (.cells #[.iface Tb (.pointer (some ⟨qb, 0, none⟩)), .int .i32 BL] 32)) s32 wx)
  case first =>
    rcases HZ.out with ⟨rfl, hh⟩ | ⟨rfl, g, b, o, nn, cap, c, l, rfl, hh, rfl, hB, hn, h0, h1⟩
    · clear hh
      go_wp2_with fail
      go_meet
      exact ⟨rfl, rfl⟩
    · clear hh
      have r0 := hB.cell
      have lb := hB.lt
      have hn0 : decide ((0 : Int) < (nn : Int)) = true := by simp; omega
      clear hB
      go_wp2_with fail
      go_meet
      exact ⟨by simp; omega, rfl⟩
  case rest =>
    obtain ⟨rfl, rfl⟩ := hcut
    go_upto_if 32 with fail
    go_cut [] (fun wx => CutFirst w 59 q wx)
    case first =>
      rcases HZ.out with ⟨rfl, rfl, rfl⟩ | ⟨rfl, g, b, o, nn, cap, c, l, rfl, rfl, rfl, hB, hn, h0, h1⟩
      · go_wp2_with fail
        go_meet
        exact ⟨_, Pair.new _ _ _ _, (Below.refl _ _).alloc (Nat.le_refl _) _⟩
      · have r0 := hB.cell
        have lb := hB.lt
        have lb1 : b < w.heap.size := World.block_lt_of_cell? w _ h0
        clear hB
        go_wp2_with fail
        go_meet
        exact ⟨_, Pair.new _ _ _ _, (Below.refl _ _).alloc (Nat.le_refl _) _⟩
    case rest =>
      obtain ⟨w1, rfl⟩ : ∃ w1 : World, w1 = wc := ⟨_, rfl⟩
      obtain ⟨l1, hp1, hb1⟩ := hcut
      have c0 := hp1.c0
      have hif1 := HS.out.2.1.up hb1
      have hk1 := HS.out.2.2.up hb1
      have i0 := hif1.cell 0 rfl
      have i1 := hif1.cell 1 rfl
      have i2 := hif1.cell 2 rfl
      have j := hk1.cell 0 rfl
      have hl1 := hb1.size
      have t1 := ta59
      have t2 := ta60
      have H1 := Lib.hid hb1
      have hlt1 := hif1.lt
      have hlk1 := hk1.lt
      clear hp1 hb1 hif1 hk1 q6 q7
      have t3 : ∀ w, (Instr.typeAssert (.iface 150 (.pointer (some ⟨xq, 0, none⟩))) 47 71 true).run Try.prog w = .ok (.tuple #[.pointer none, .bool false]) w := fun w => by rw [te71, if_neg (by decide)]
      have hp9 := Pair.new w1 49 .nilIface (.int .i32 0)
      go_upto_region 10 with fail
      go_cut [79] (fun s79 wx => CutZ false (w1.alloc (.cells #[.nilIface, .int .i32 0] 49)) s79 wx)
      case first =>
        go_wp2_with fail
        go_meet
        exact ⟨rfl, rfl⟩
      case rest =>
        obtain ⟨rfl, rfl⟩ := hcut
        go_upto_if 79 with fail
        go_cut [] (fun wx => CutNot w w1 (.iface 150 (.pointer (some ⟨xq, 0, none⟩))) XL wx)
        case first =>
          go_wp2_with fail
          refine (not_ident xq XL _).mono ?_
          rintro e w2 ⟨v, rfl, hv, hb2⟩
          have hp2 := hp9.below hb2 (by simp)
          have HV := Lib.hid hv
          obtain ⟨u, rfl, hu⟩ := hv
          have g0 := hp2.frozen 0
          have g1 := hp2.frozen 1
          have d0 := hp2.c0
          have d1 := hp2.c1
          clear hu hp9
          go_wp2_with fail
          go_meet
          have hb12 := ((Below.refl w1.heap.size w1).alloc (Nat.le_refl _) (.cells #[.nilIface, .int .i32 0] 49)).trans (hb2.mono (by simp))
          have hsz2 := hb2.size
          simp only [World.size_alloc] at hsz2
          refine ⟨.iface 71 (.pointer (some ⟨u, 0, none⟩)), XL, hp2.set _ _, ⟨_, _, rfl⟩, .inl ⟨xq, rfl, rfl, ?_⟩, (hb12.setCell (p := ⟨w1.heap.size, 0, none⟩) (Nat.le_refl _) _).setCell (p := ⟨w1.heap.size, 1, none⟩) (Nat.le_refl _) _⟩
          exact (HV.out.setOld (by simp) _ _).mono (by simp)
        case rest =>
          obtain ⟨w3, rfl⟩ : ∃ w3 : World, w3 = wc := ⟨_, rfl⟩
          obtain ⟨nx, nl, hpn, ⟨Tn, qn, rfl⟩, hno, hb3⟩ := hcut
          have hb03 : Below w.heap.size w w3 := H1.out.trans (hb3.mono H1.out.size)
          have hS3 := HS.out.1.up hb03
          have HNO := Lib.hid hno
          have HB3 := Lib.hid hb3
          have HS3 := Lib.hid hS3
          have s2 := hS3.c2
          have s3 := hS3.c3
          have s6 := hS3.c6
          have s7 := hS3.c7
          have n0 := hpn.c0
          have n1 := hpn.c1
          have fr2 := hS3.frozen 2
          have fr3 := hS3.frozen 3
          have lS3 := hS3.lt
          have ln3 := hpn.lt
          have HB03 := Lib.hid hb03
          clear hpn hno hb3 hb03 hS3 hp9 i0 i1 i2 j c0
          obtain ⟨zt, t5, t6, hzt⟩ : ∃ zt, (∀ w, (binOp .neq 47 T .nilIface).run Try.prog w = .ok (.bool zt) w) ∧ (∀ w, (eqGuard BinOp.neq 47 (Operand.tmp 93) (Operand.const Value.nilIface) T Value.nilIface).run Try.prog w = .ok () w) ∧ ((zt = false ∧ T = .nilIface) ∨ (zt = true ∧ ∃ Tt tq, T = .iface Tt (.pointer (some ⟨tq, 0, none⟩)))) := by
            rcases HT.out with rfl | ⟨Tt, tq, rfl⟩
            · exact ⟨false, nn47, fun _ => by simp [eqGuard], .inl ⟨rfl, rfl⟩⟩
            · exact ⟨true, ni47 _ _, fun _ => by simp [eqGuard], .inr ⟨rfl, Tt, tq, rfl⟩⟩
          have HZT := Lib.hid hzt
          clear hzt
          go_upto_if 94 with fail
          go_cut [] (fun wx => CutTestL w3 S T TL (.iface Tn (.pointer (some ⟨qn, 0, none⟩))) nl (.iface Tb (.pointer (some ⟨qb, 0, none⟩))) BL wx)
          case first =>
            rcases HZT.out with ⟨rfl, rfl⟩ | ⟨rfl, Tt, tq, rfl⟩
            · go_wp2_with fail
              go_meet
              exact ⟨_, _, HS3.out.set _ _, .inl ⟨rfl, rfl, rfl⟩, only_set (p := ⟨S, 3, none⟩) (only_set (p := ⟨S, 2, none⟩) (World.grownBy.refl w3 _) (.inl rfl) _) (.inl rfl) _⟩
            · go_wp2_with fail
              go_region
              go_wp2_with fail
              go_meet
              refine ⟨_, _, ((HS3.out.set _ _).alloc _).same rfl, .inr ⟨(fun hh => by cases hh), rfl, w3.heap.size, rfl, Nat.le_refl _, ?_⟩, only_drew (only_alloc (only_set (p := ⟨S, 3, none⟩) (only_set (p := ⟨S, 2, none⟩) (World.grownBy.refl w3 _) (.inl rfl) _) (.inl rfl) _) _)⟩
              exact (Has.new _ _ _ (by simp)).same rfl
          case rest =>
            obtain ⟨w5, rfl⟩ : ∃ w5 : World, w5 = wc := ⟨_, rfl⟩
            obtain ⟨T', TL', hS5, hTV, hg5⟩ := hcut
            have hq3 : Has w3 q 65 _ := HS.out.2.1.up HB03.out
            have hq5 : Has w5 q 65 _ := hq3.same (hg5.block q hq3.lt (by simpa using hqS))
            have i4 := hq5.cell 4 rfl
            have i5 := hq5.cell 5 rfl
            have s6' := hS5.c6
            have s7' := hS5.c7
            have lS5 := hS5.lt
            have lq5 := hq5.lt
            have HS5 := Lib.hid hS5
            have HTV := Lib.hid hTV
            have HG5 := Lib.hid hg5
            have hgr : w.grownBy w5 (some S) := grown_trans (grown_any (grown_of_below HB03.out) _) hg5
            have HGR := Lib.hid hgr
            clear hS5 hTV hg5 hq3 hq5 hgr s2 s3 s6 s7 n0 n1 fr2 fr3 t5 t6
            go_wp2_with fail
            go_region_with (go_at_call 26; refine (HB.out _ (by first | exact HGR.out | exact only_drew HGR.out)).mono ?_; rintro e w6 ⟨v, l, rfl, hone, hg, hd⟩; have hS6 := HS5.out.same (w' := w6) (hg.block S lS5 (by simpa using Ne.symm hgS)); have hst := hS6.store v hone; have y7 := hS6.c7; have z7 := hS6.frozen 7; have HD := Lib.hid (And.intro hg (And.intro hd hS6)); clear hg hd hS6)
            all_goals
              go_wp2_with fail
              exact bodyPost_ret (v := .tuple #[]) (by simp [results, Try.results27, go_sem]) rfl (at_end H1.out HB3.out HG5.out HGR.out (grown_undrew HD.out.1) hgw HD.out.2.1 HR.out HD.out.2.2 HTV.out HNO.out hl)

end Go.Proofs.Ytolpgogmbebmcaa
