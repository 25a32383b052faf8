/-
  The contract of mangleFor at an if whose yes branch is a plain break; conditions: those that it names.
-/
import Derived.Test.YtolpgogmbebmcaaFacts
namespace Go.Proofs.Ytolpgogmbebmcaa
open Go.RowKit

set_option maxHeartbeats 8000000 in
set_option maxRecDepth 100000 in
theorem mangle_yes (S q kq N M n k1 Tb qb Tx xq : Nat) (T rd p : Value) (TL XL YL rl : Int) (h : Bool) (w : World) (hS : ForAt w S T TL (.iface Tb (.pointer (some ⟨qb, 0, none⟩))) 16777216) (hf : FirstIs w (.iface Tb (.pointer (some ⟨qb, 0, none⟩))) 59 q)
    (hif : Has w q 65 #[.iface Tx (.pointer (some ⟨xq, 0, none⟩)), .int .i32 XL, .iface 60 (.pointer (some ⟨kq, 0, none⟩)), .int .i32 YL, rd, .int .i32 rl, .bool false, .bool false]) (hk : Has w kq 63 #[.pointer none])
    (hX : Tx = 150 ∨ (Tx = 71 ∧ ∃ Ty yq xl, IsNot w 0 (.iface Tx (.pointer (some ⟨xq, 0, none⟩))) (.iface Ty (.pointer (some ⟨yq, 0, none⟩))) xl))
    (hT : T = .nilIface ∨ ∃ Tt tq, T = .iface Tt (.pointer (some ⟨tq, 0, none⟩))) (hqS : q ≠ S) (hbody : ∀ w', w.grownBy w' (some S) → Body N M w' n k1 (.iface Tb (.pointer (some ⟨qb, 0, none⟩))) p) (hr : Repl h rd rl) (hMN : ∀ g, N ≤ g → g < M → g ≠ S) (hMw : M ≤ w.heap.size) :
    Calls Try.prog 27 #[.pointer (some ⟨S, 0, none⟩)] w (FoldPost w S N M n k1 h T p TL (NotOf w w.heap.size (.iface Tx (.pointer (some ⟨xq, 0, none⟩))) XL)) := by
  have q6 := hS.c6
  have q7 := hS.c7
  have hl := hS.lt
  have HS := Lib.hid (And.intro hS (And.intro hif hk))
  have HB := Lib.hid hbody
  have HM := Lib.hid hMN
  clear hif hS hk hbody hMN
  obtain ⟨P, z, t0, hz⟩ := first_cases hf
  clear hf
  have HZ := Lib.hid hz
  have HX := Lib.hid hX
  have HT := Lib.hid hT
  clear hz hX hT
  go_enter Try.func27, Try.ntmps27
  go_upto_region 2 with fail
  go_cut [32] (fun s32 wx => CutZ z (w.alloc (.cells #[.iface Tb (.pointer (some ⟨qb, 0, none⟩)), .int .i32 16777216] 32)) s32 wx)
  case first =>
    rcases HZ.out with ⟨rfl, hh⟩ | ⟨rfl, g, b, nn, cap, c, l, rfl, hh, rfl, hB, hn, h0, h1⟩
    · clear hh
      go_wp2_with fail
      go_meet
      exact ⟨rfl, rfl⟩
    · clear hh
      have r0 := hB.cell
      have lb := hB.lt
      have hn0 : decide ((0 : Int) < (nn : Int)) = true := by simp; omega
      clear hB
      go_wp2_with fail
      go_meet
      exact ⟨by simp; omega, rfl⟩
  case rest =>
    obtain ⟨rfl, rfl⟩ := hcut
    go_upto_if 32 with fail
    go_cut [] (fun wx => CutFirst w 59 q wx)
    case first =>
      rcases HZ.out with ⟨rfl, rfl, rfl⟩ | ⟨rfl, g, b, nn, cap, c, l, rfl, rfl, rfl, hB, hn, h0, h1⟩
      · go_wp2_with fail
        go_meet
        exact ⟨_, Pair.new _ _ _ _, (Below.refl _ _).alloc (Nat.le_refl _) _⟩
      · have r0 := hB.cell
        have lb := hB.lt
        have lb1 : b < w.heap.size := World.block_lt_of_cell? w _ h0
        clear hB
        go_wp2_with fail
        go_meet
        exact ⟨_, Pair.new _ _ _ _, (Below.refl _ _).alloc (Nat.le_refl _) _⟩
    case rest =>
      obtain ⟨w1, rfl⟩ : ∃ w1 : World, w1 = wc := ⟨_, rfl⟩
      obtain ⟨l1, hp1, hb1⟩ := hcut
      have c0 := hp1.c0
      have hif1 := HS.out.2.1.up hb1
      have hk1 := HS.out.2.2.up hb1
      have i0 := hif1.cell 0 rfl
      have i1 := hif1.cell 1 rfl
      have i2 := hif1.cell 2 rfl
      have j := hk1.cell 0 rfl
      have hl1 := hb1.size
      have t1 := ta59
      have t2 := ta60
      have H1 := Lib.hid hb1
      have hlt1 := hif1.lt
      have hlk1 := hk1.lt
      clear hp1 hb1 hif1 hk1 q6 q7
      obtain ⟨PX, zx, t3, hzx⟩ : ∃ PX zx, (∀ w, (Instr.typeAssert (.iface Tx (.pointer (some ⟨xq, 0, none⟩))) 47 71 true).run Try.prog w = .ok (.tuple #[PX, .bool zx]) w) ∧ ((zx = false ∧ Tx = 150) ∨ (zx = true ∧ Tx = 71 ∧ PX = .pointer (some ⟨xq, 0, none⟩) ∧ ∃ Ty yq xl, IsNot w 0 (.iface Tx (.pointer (some ⟨xq, 0, none⟩))) (.iface Ty (.pointer (some ⟨yq, 0, none⟩))) xl)) := by
        rcases HX.out with hx | ⟨hx, hn⟩
        · exact ⟨_, _, fun w => by rw [te71, if_neg (by rw [hx]; decide)], .inl ⟨rfl, hx⟩⟩
        · exact ⟨_, _, fun w => by rw [te71, if_pos hx], .inr ⟨rfl, hx, rfl, hn⟩⟩
      have HZX := Lib.hid hzx
      clear hzx
      have hp9 := Pair.new w1 49 .nilIface (.int .i32 0)
      go_upto_region 10 with fail
      go_cut [79] (fun s79 wx => CutZ zx (w1.alloc (.cells #[.nilIface, .int .i32 0] 49)) s79 wx)
      case first =>
        rcases HZX.out with ⟨rfl, _⟩ | ⟨rfl, rfl, rfl, Ty, yq, xl, u, hu, _, hul, hu0, hu1, hu2⟩
        · go_wp2_with fail
          go_meet
          exact ⟨rfl, rfl⟩
        · injection hu with _ hu
          injection hu with hu
          injection hu with hu
          injection hu with hu
          subst hu
          have k2 : w1.cell? ⟨xq, 2, none⟩ = some (.int .u8 3) := by rw [H1.out.cell (p := ⟨xq, 2, none⟩) hul, hu2]
          have hxl : xq < w1.heap.size := by omega
          go_wp2_with fail
          go_meet
          exact ⟨rfl, rfl⟩
      case rest =>
        obtain ⟨rfl, rfl⟩ := hcut
        go_upto_if 79 with fail
        go_cut [] (fun wx => CutNot w w1 (.iface Tx (.pointer (some ⟨xq, 0, none⟩))) XL wx)
        case first =>
          rcases HZX.out with ⟨rfl, rfl⟩ | ⟨rfl, rfl, rfl, Ty, yq, xl, u, hu, _, hul, hu0, hu1, hu2⟩
          · go_wp2_with fail
            refine (not_ident xq XL _).mono ?_
            rintro e w2 ⟨v, rfl, hv, hb2⟩
            have hp2 := hp9.below hb2 (by simp)
            have HV := Lib.hid hv
            obtain ⟨u, rfl, hu⟩ := hv
            have g0 := hp2.frozen 0
            have g1 := hp2.frozen 1
            have d0 := hp2.c0
            have d1 := hp2.c1
            clear hu hp9
            go_wp2_with fail
            go_meet
            have hb12 := ((Below.refl w1.heap.size w1).alloc (Nat.le_refl _) (.cells #[.nilIface, .int .i32 0] 49)).trans (hb2.mono (by simp))
            have hsz2 := hb2.size
            simp only [World.size_alloc] at hsz2
            refine ⟨.iface 71 (.pointer (some ⟨u, 0, none⟩)), XL, hp2.set _ _, ⟨_, _, rfl⟩, .inl ⟨xq, rfl, rfl, ?_⟩, (hb12.setCell (p := ⟨w1.heap.size, 0, none⟩) (Nat.le_refl _) _).setCell (p := ⟨w1.heap.size, 1, none⟩) (Nat.le_refl _) _⟩
            exact (HV.out.setOld (by simp) _ _).mono (by simp)
          · injection hu with _ hu
            injection hu with hu
            injection hu with hu
            injection hu with hu
            subst hu
            have k0 : w1.cell? ⟨xq, 0, none⟩ = some (.iface Ty (.pointer (some ⟨yq, 0, none⟩))) := by rw [H1.out.cell (p := ⟨xq, 0, none⟩) hul, hu0]
            have k1' : w1.cell? ⟨xq, 1, none⟩ = some (.int .i32 xl) := by rw [H1.out.cell (p := ⟨xq, 1, none⟩) hul, hu1]
            have hxl : xq < w1.heap.size := by have := H1.out.size; omega
            go_wp2_with fail
            go_meet
            refine ⟨.iface Ty (.pointer (some ⟨yq, 0, none⟩)), xl, Pair.new _ _ _ _, ⟨_, _, rfl⟩, .inr ⟨xq, rfl, xq, rfl, Nat.zero_le _, hul, hu0, hu1, hu2⟩, (Below.refl _ _).alloc (Nat.le_refl _) _⟩
        case rest =>
          obtain ⟨w3, rfl⟩ : ∃ w3 : World, w3 = wc := ⟨_, rfl⟩
          obtain ⟨nx, nl, hpn, ⟨Tn, qn, rfl⟩, hno, hb3⟩ := hcut
          have hb03 : Below w.heap.size w w3 := H1.out.trans (hb3.mono H1.out.size)
          have hS3 := HS.out.1.up hb03
          have HNO := Lib.hid hno
          have HB3 := Lib.hid hb3
          have HS3 := Lib.hid hS3
          have s2 := hS3.c2
          have s3 := hS3.c3
          have s6 := hS3.c6
          have s7 := hS3.c7
          have n0 := hpn.c0
          have n1 := hpn.c1
          have fr2 := hS3.frozen 2
          have fr3 := hS3.frozen 3
          have lS3 := hS3.lt
          have ln3 := hpn.lt
          have HB03 := Lib.hid hb03
          clear hpn hno hb3 hb03 hS3 hp9 i0 i1 i2 j c0
          obtain ⟨zt, t5, t6, hzt⟩ : ∃ zt, (∀ w, (binOp .neq 47 T .nilIface).run Try.prog w = .ok (.bool zt) w) ∧ (∀ w, (eqGuard BinOp.neq 47 (Operand.tmp 93) (Operand.const Value.nilIface) T Value.nilIface).run Try.prog w = .ok () w) ∧ ((zt = false ∧ T = .nilIface) ∨ (zt = true ∧ ∃ Tt tq, T = .iface Tt (.pointer (some ⟨tq, 0, none⟩)))) := by
            rcases HT.out with rfl | ⟨Tt, tq, rfl⟩
            · exact ⟨false, nn47, fun _ => by simp [eqGuard], .inl ⟨rfl, rfl⟩⟩
            · exact ⟨true, ni47 _ _, fun _ => by simp [eqGuard], .inr ⟨rfl, Tt, tq, rfl⟩⟩
          have HZT := Lib.hid hzt
          clear hzt
          go_upto_if 94 with fail
          go_cut [] (fun wx => CutTest w3 S T TL (.iface Tn (.pointer (some ⟨qn, 0, none⟩))) nl (.iface Tb (.pointer (some ⟨qb, 0, none⟩))) wx)
          case first =>
            rcases HZT.out with ⟨rfl, rfl⟩ | ⟨rfl, Tt, tq, rfl⟩
            · go_wp2_with fail
              go_meet
              exact ⟨_, _, HS3.out.set _ _, .inl ⟨rfl, rfl, rfl⟩, only_set (p := ⟨S, 3, none⟩) (only_set (p := ⟨S, 2, none⟩) (World.grownBy.refl w3 _) (.inl rfl) _) (.inl rfl) _⟩
            · go_wp2_with fail
              go_region
              go_wp2_with fail
              go_meet
              refine ⟨_, _, ((HS3.out.set _ _).alloc _).same rfl, .inr ⟨(fun hh => by cases hh), rfl, w3.heap.size, rfl, Nat.le_refl _, ?_⟩, only_drew (only_alloc (only_set (p := ⟨S, 3, none⟩) (only_set (p := ⟨S, 2, none⟩) (World.grownBy.refl w3 _) (.inl rfl) _) (.inl rfl) _) _)⟩
              exact (Has.new _ _ _ (by simp)).same rfl
          case rest =>
            obtain ⟨w5, rfl⟩ : ∃ w5 : World, w5 = wc := ⟨_, rfl⟩
            obtain ⟨T', TL', hS5, hTV, hg5⟩ := hcut
            have hq3 : Has w3 q 65 _ := HS.out.2.1.up HB03.out
            have hq5 : Has w5 q 65 _ := hq3.same (hg5.block q hq3.lt (by simpa using hqS))
            have i4 := hq5.cell 4 rfl
            have i5 := hq5.cell 5 rfl
            have s6' := hS5.c6
            have s7' := hS5.c7
            have lS5 := hS5.lt
            have lq5 := hq5.lt
            have HS5 := Lib.hid hS5
            have HTV := Lib.hid hTV
            have HG5 := Lib.hid hg5
            have hgr : w.grownBy w5 (some S) := grown_trans (grown_any (grown_of_below HB03.out) _) hg5
            have HGR := Lib.hid hgr
            clear hS5 hTV hg5 hq3 hq5 hgr s2 s3 s6 s7 n0 n1 fr2 fr3 t5 t6
            go_wp2_with fail
            go_region_with (go_at_call 26; refine (drop26_any N M n k1 h _ p rd rl _ (HB.out _ (by first | exact HGR.out | exact only_drew HGR.out)) hr).mono ?_; rintro e w6 ⟨v, l, row, rfl, hone, hg, hrow, hd⟩; have hS6 := HS5.out.same (w' := w6) (hg.block S lS5 (fun e => HM.out S (hrow S e.symm).1.1 (hrow S e.symm).1.2 rfl)); have hst := hS6.store v hone; have y7 := hS6.c7; have z7 := hS6.frozen 7; have HD := Lib.hid (And.intro hg (And.intro hrow (And.intro hd hS6))); clear hg hrow hd hS6)
            all_goals
              go_wp2_with fail
              exact bodyPost_ret (v := .tuple #[]) (by simp [results, Try.results27, go_sem]) rfl (fold_end H1.out HB3.out HG5.out HGR.out (grown_undrew HD.out.1) HD.out.2.1 HM.out HD.out.2.2.1 HD.out.2.2.2 HTV.out HNO.out hl hMw)

end Go.Proofs.Ytolpgogmbebmcaa
