/-
  The contract of mangleFor at an if whose no branch is a plain break; conditions: those that it names.
-/
import Derived.Test.YtolpgogmbebmcaaFacts
namespace Go.Proofs.Ytolpgogmbebmcaa
open Go.RowKit

set_option maxHeartbeats 8000000 in
set_option maxRecDepth 100000 in
theorem mangle_no (S q kq N M n k1 Tb qb Tx xq Ty yq : Nat) (T p : Value) (TL XL YL NL : Int) (h : Bool) (w : World) (hS : ForAt w S T TL (.iface Tb (.pointer (some ⟨qb, 0, none⟩))) 16777216) (hf : FirstIs w (.iface Tb (.pointer (some ⟨qb, 0, none⟩))) 59 q)
    (hif : Has w q 65 #[.iface Tx (.pointer (some ⟨xq, 0, none⟩)), .int .i32 XL, .iface Ty (.pointer (some ⟨yq, 0, none⟩)), .int .i32 YL, .iface 60 (.pointer (some ⟨kq, 0, none⟩)), .int .i32 NL, .bool false, .bool false]) (hk : Has w kq 63 #[.pointer none]) (hTy : ¬ Ty = 60)
    (hT : T = .nilIface ∨ ∃ Tt tq, T = .iface Tt (.pointer (some ⟨tq, 0, none⟩))) (hqS : q ≠ S) (hbody : ∀ w', w.grownBy w' (some S) → Body N M w' n k1 (.iface Tb (.pointer (some ⟨qb, 0, none⟩))) p) (hr : Repl h (.iface Ty (.pointer (some ⟨yq, 0, none⟩))) YL) (hMN : ∀ g, N ≤ g → g < M → g ≠ S) (hMw : M ≤ w.heap.size) :
    Calls Try.prog 27 #[.pointer (some ⟨S, 0, none⟩)] w (FoldPost w S N M n k1 h T p TL (fun nx nl _ => nx = .iface Tx (.pointer (some ⟨xq, 0, none⟩)) ∧ nl = XL)) := by
  have q6 := hS.c6
  have q7 := hS.c7
  have hl := hS.lt
  have HS := Lib.hid (And.intro hS (And.intro hif hk))
  have HB := Lib.hid hbody
  have HM := Lib.hid hMN
  clear hif hS hk hbody hMN
  obtain ⟨P, z, t0, hz⟩ := first_cases hf
  clear hf
  have HZ := Lib.hid hz
  have HT := Lib.hid hT
  clear hz hT
  go_enter Try.func27, Try.ntmps27
  go_upto_region 2 with fail
  go_cut [32] (fun s32 wx => CutZ z (w.alloc (.cells #[.iface Tb (.pointer (some ⟨qb, 0, none⟩)), .int .i32 16777216] 32)) s32 wx)
  case first =>
    rcases HZ.out with ⟨rfl, hh⟩ | ⟨rfl, g, b, nn, cap, c, l, rfl, hh, rfl, hB, hn, h0, h1⟩
    · clear hh
      go_wp2_with fail
      go_meet
      exact ⟨rfl, rfl⟩
    · clear hh
      have r0 := hB.cell
      have lb := hB.lt
      have hn0 : decide ((0 : Int) < (nn : Int)) = true := by simp; omega
      clear hB
      go_wp2_with fail
      go_meet
      exact ⟨by simp; omega, rfl⟩
  case rest =>
    obtain ⟨rfl, rfl⟩ := hcut
    go_upto_if 32 with fail
    go_cut [] (fun wx => CutFirst w 59 q wx)
    case first =>
      rcases HZ.out with ⟨rfl, rfl, rfl⟩ | ⟨rfl, g, b, nn, cap, c, l, rfl, rfl, rfl, hB, hn, h0, h1⟩
      · go_wp2_with fail
        go_meet
        exact ⟨_, Pair.new _ _ _ _, (Below.refl _ _).alloc (Nat.le_refl _) _⟩
      · have r0 := hB.cell
        have lb := hB.lt
        have lb1 : b < w.heap.size := World.block_lt_of_cell? w _ h0
        clear hB
        go_wp2_with fail
        go_meet
        exact ⟨_, Pair.new _ _ _ _, (Below.refl _ _).alloc (Nat.le_refl _) _⟩
    case rest =>
      obtain ⟨w1, rfl⟩ : ∃ w1 : World, w1 = wc := ⟨_, rfl⟩
      obtain ⟨l1, hp1, hb1⟩ := hcut
      have c0 := hp1.c0
      have hif1 := HS.out.2.1.up hb1
      have hk1 := HS.out.2.2.up hb1
      have i0 := hif1.cell 0 rfl
      have i1 := hif1.cell 1 rfl
      have i2 := hif1.cell 2 rfl
      have i4 := hif1.cell 4 rfl
      have j := hk1.cell 0 rfl
      have t1 := ta59
      have t2 : ∀ (v : Value) (w : World), (Instr.typeAssert (.iface Ty v) 28 60 true).run Try.prog w = .ok (.tuple #[.pointer none, .bool false]) w := fun v w => by rw [ta60, if_neg hTy]
      have t2b : ∀ (v : Value) (w : World), (Instr.typeAssert (.iface 60 v) 28 60 true).run Try.prog w = .ok (.tuple #[v, .bool true]) w := fun v w => by rw [ta60, if_pos rfl]
      have t3 := ni28
      have hS1 := HS.out.1.up hb1
      have H1 := Lib.hid hb1
      have HS1 := Lib.hid hS1
      have s2 := hS1.c2
      have s3 := hS1.c3
      have fr2 := hS1.frozen 2
      have fr3 := hS1.frozen 3
      have lS1 := hS1.lt
      clear hp1 hb1 hif1 hk1 q6 q7 hS1
      obtain ⟨zt, t5, t6, hzt⟩ : ∃ zt, (∀ w, (binOp .neq 47 T .nilIface).run Try.prog w = .ok (.bool zt) w) ∧ (∀ w, (eqGuard BinOp.neq 47 (Operand.tmp 155) (Operand.const Value.nilIface) T Value.nilIface).run Try.prog w = .ok () w) ∧ ((zt = false ∧ T = .nilIface) ∨ (zt = true ∧ ∃ Tt tq, T = .iface Tt (.pointer (some ⟨tq, 0, none⟩)))) := by
        rcases HT.out with rfl | ⟨Tt, tq, rfl⟩
        · exact ⟨false, nn47, fun _ => by simp [eqGuard], .inl ⟨rfl, rfl⟩⟩
        · exact ⟨true, ni47 _ _, fun _ => by simp [eqGuard], .inr ⟨rfl, Tt, tq, rfl⟩⟩
      have HZT := Lib.hid hzt
      clear hzt
      go_upto_if 156 with fail
      go_cut [] (fun wx => CutTest w1 S T TL (.iface Tx (.pointer (some ⟨xq, 0, none⟩))) XL (.iface Tb (.pointer (some ⟨qb, 0, none⟩))) wx)
      case first =>
        rcases HZT.out with ⟨rfl, rfl⟩ | ⟨rfl, Tt, tq, rfl⟩
        · go_wp2_with fail
          go_meet
          exact ⟨_, _, HS1.out.set _ _, .inl ⟨rfl, rfl, rfl⟩, only_set (p := ⟨S, 3, none⟩) (only_set (p := ⟨S, 2, none⟩) (World.grownBy.refl w1 _) (.inl rfl) _) (.inl rfl) _⟩
        · go_wp2_with fail
          go_region
          go_wp2_with fail
          go_meet
          refine ⟨_, _, ((HS1.out.set _ _).alloc _).same rfl, .inr ⟨(fun hh => by cases hh), rfl, w1.heap.size, rfl, Nat.le_refl _, ?_⟩, only_drew (only_alloc (only_set (p := ⟨S, 3, none⟩) (only_set (p := ⟨S, 2, none⟩) (World.grownBy.refl w1 _) (.inl rfl) _) (.inl rfl) _) _)⟩
          exact (Has.new _ _ _ (by simp)).same rfl
      case rest =>
        obtain ⟨w5, rfl⟩ : ∃ w5 : World, w5 = wc := ⟨_, rfl⟩
        obtain ⟨T', TL', hS5, hTV, hg5⟩ := hcut
        have hq3 : Has w1 q 65 _ := HS.out.2.1.up H1.out
        have hq5 : Has w5 q 65 _ := hq3.same (hg5.block q hq3.lt (by simpa using hqS))
        have i2' := hq5.cell 2 rfl
        have i3' := hq5.cell 3 rfl
        have s6' := hS5.c6
        have s7' := hS5.c7
        have lS5 := hS5.lt
        have lq5 := hq5.lt
        have HS5 := Lib.hid hS5
        have HTV := Lib.hid hTV
        have HG5 := Lib.hid hg5
        have hgr : w.grownBy w5 (some S) := grown_trans (grown_any (grown_of_below H1.out) _) hg5
        have HGR := Lib.hid hgr
        clear hS5 hTV hg5 hq3 hq5 hgr s2 s3 fr2 fr3 t5 t6 i0 i1 i2 i4 j c0
        go_wp2_with fail
        go_region_with (go_at_call 26; refine (drop26_any N M n k1 h _ p _ YL _ (HB.out _ (by first | exact HGR.out | exact only_drew HGR.out)) hr).mono ?_; rintro e w6 ⟨v, l, row, rfl, hone, hg, hrow, hd⟩; have hS6 := HS5.out.same (w' := w6) (hg.block S lS5 (fun e => HM.out S (hrow S e.symm).1.1 (hrow S e.symm).1.2 rfl)); have hst := hS6.store v hone; have y7 := hS6.c7; have z7 := hS6.frozen 7; have HD := Lib.hid (And.intro hg (And.intro hrow (And.intro hd hS6))); clear hg hrow hd hS6)
        all_goals
          go_wp2_with fail
          exact bodyPost_ret (v := .tuple #[]) (by simp [results, Try.results27, go_sem]) rfl (fold_end2 H1.out HG5.out HGR.out (grown_undrew HD.out.1) HD.out.2.1 HM.out HD.out.2.2.1 HD.out.2.2.2 HTV.out hl hMw)

end Go.Proofs.Ytolpgogmbebmcaa
