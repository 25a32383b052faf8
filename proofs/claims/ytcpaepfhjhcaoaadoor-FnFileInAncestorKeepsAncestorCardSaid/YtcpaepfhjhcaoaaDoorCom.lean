/-
  The contract of the components that two directories share; conditions: the sizes that it names.
-/
import Derived.Test.YtcpaepfhjhcaoaaDoorMdl
import Derived.BigQuiet
import Derived.Deep.QuietTactic
namespace Go.Proofs.YtcpaepfhjhcaoaaDoor
open Go.RowKit

theorem int_nat (a : Nat) : ((a : Nat) : Int) = (a : Int) := rfl
def ComOut (x y : ByteArray) (t : Nat) (w : World) (g : Nat) (c i : Value) (wx : World) : Prop := ∃ n k u xs v ys, Out x y t n k u xs v ys ∧ c = .int .i64 (n : Nat) ∧ i = .int .i64 (k : Nat) ∧ g = x.size + 1 - k ∧ ∃ m, wx = w.drewN m
def ComInn (x y : ByteArray) (k : Nat) (w : World) (g : Nat) (j : Value) (wx : World) : Prop := ∃ q, Inn x y k q ∧ j = .int .i64 (q : Nat) ∧ g = x.size - q ∧ ∃ m, wx = w.drewN m
theorem low_ne {a b : UInt8} (h : (((low a).toNat : Int) == ((low b).toNat : Int)) = false) : low a ≠ low b := by
  intro e
  rw [e, beq_self_eq_true] at h
  cases h
theorem low_eq {a b : UInt8} (h : (((low a).toNat : Int) == ((low b).toNat : Int)) = true) : low a = low b := by
  rw [beq_iff_eq] at h
  exact UInt8.toNat_inj.1 (by omega)

set_option maxHeartbeats 2000000 in
set_option maxRecDepth 100000 in
theorem common_any (x y : ByteArray) (cs ds : List Bs) (w : World) (hxs : x.size ≤ 1048576) (hys : y.size ≤ 1048576) (hx : x.data.toList = D cs) (hy : y.data.toList = D ds) (hc : Comps cs) (hd : Comps ds) :
    Calls Tryd.prog 20 #[.string x, .string y] w fun e w' => e = .returned (.int .i64 (lc cs ds : Nat)) ∧ ∃ m, w' = w.drewN m := by
  have rx := root_iff hx hc
  have ry := root_iff hy hd
  by_cases h1 : cs = []
  · subst h1
    rw [decide_eq_true rfl] at rx
    have hz : lc [] ds = 0 := rfl
    rw [hz]
    clear hx hy hc hd hz
    cases q : (y.toList == [47])
    all_goals (
      clear ry
      go_enter Tryd.func20, Tryd.ntmps20
      go_wp2_with fail
      go_ret
      exact ⟨rfl, 0, rfl⟩)
  by_cases h2 : ds = []
  · subst h2
    rw [decide_eq_true rfl] at ry
    rw [decide_eq_false h1] at rx
    rw [lc_nil]
    clear hx hy hc hd h1
    go_enter Tryd.func20, Tryd.ntmps20
    go_wp2_with fail
    go_ret
    exact ⟨rfl, 0, rfl⟩
  rw [decide_eq_false h1] at rx
  rw [decide_eq_false h2] at ry
  have HO := Lib.hid (Out.start hx hy hc hd h1 h2)
  obtain ⟨t, ht⟩ : ∃ t, lc cs ds = t := ⟨_, rfl⟩
  rw [ht] at HO ⊢
  clear hx hy hc hd h1 h2 ht
  go_enter Tryd.func20, Tryd.ntmps20
  go_wp2_with fail
  clear rx ry
  go_loopg [5, 6] x.size (fun g c i wx => ComOut x y t w g c i wx)
  case atStart =>
    obtain ⟨u, xs, v, ys, h⟩ := HO.out
    exact ⟨0, 1, u, xs, v, ys, h, rfl, rfl, by omega, 0, rfl⟩
  case round =>
    obtain ⟨n, k, u, xs, v, ys, ho, rfl, rfl, rfl, m0, rfl⟩ := hrel
    have hkx := ho.lx
    have hky := ho.ly
    have hnk := ho.small
    have HP := Lib.hid ho
    clear ho
    go_wp2_with fail
    go_loopg [7] (x.size - k) (fun g j wx => ComInn x y k w g j wx)
    case atStart => exact ⟨k, ⟨Nat.le_refl _, hkx, hky, by omega⟩, rfl, rfl, m0, rfl⟩
    case round =>
      obtain ⟨q, hq, rfl, rfl, m, rfl⟩ := hrel
      have hq1 := hq.1
      have hq2 := hq.2.1
      have hq3 := hq.2.2.1
      have HQ := Lib.hid hq
      clear hq
      by_cases ltx : q < x.size
      · by_cases lty : q < y.size
        · have n0 := drop_cons ltx
          clear n0
          have n1 : ((q : Int) == (x.size : Int)) = false := by rw [beq_eq_false_iff_ne]; omega
          have n2 : ((q : Int) == (y.size : Int)) = false := by rw [beq_eq_false_iff_ne]; omega
          cases b1 : ((x[q].toNat : Int) == 47)
          · have c1 : ((x[q].toNat : Int) != 47) = true := by unfold bne; rw [b1]; rfl
            cases b2 : ((y[q].toNat : Int) == 47)
            · have c2 : ((y[q].toNat : Int) != 47) = true := by unfold bne; rw [b2]; rfl
              cases b3 : (((low x[q]).toNat : Int) == ((low y[q]).toNat : Int))
              · have HR := Lib.hid (HP.out.differ hq1 hq2 hq3 (HQ.out.done (fun hx hy e => low_ne b3 e.2.2)) (fun e => by
                  rcases e.1 with e | e
                  · omega
                  · exact no_at ltx b1 e))
                go_wp2_with fail
                go_big_quiet ((go_at_call 30; exact (lower_any _ _).mono fun _ _ ⟨he, hm⟩ => ⟨he, _, hm.symm⟩))
                go_wp2_with fail
                go_ret
                refine ⟨?_, _, rfl⟩
                rw [HR.out]
                rfl
              · have HR := Lib.hid (HQ.out.step ltx lty (notB 47 47 rfl b1) (notB 47 47 rfl b2) (low_eq b3))
                go_wp2_with fail
                go_big_quiet ((go_at_call 30; exact (lower_any _ _).mono fun _ _ ⟨he, hm⟩ => ⟨he, _, hm.symm⟩))
                go_wp2_with fail
                go_roundg (x.size - (q + 1))
                case measure => omega
                case rel => exact ⟨q + 1, HR.out, by go_num, rfl, _, rfl⟩
            · have c2 : ((y[q].toNat : Int) != 47) = false := by unfold bne; rw [b2]; rfl
              have HR := Lib.hid (HP.out.differ hq1 hq2 hq3 (HQ.out.done (fun hx hy e => e.2.1 (isB 47 47 rfl b2))) (fun e => by
                  rcases e.1 with e | e
                  · omega
                  · exact no_at ltx b1 e))
              go_wp2_with fail
              go_big_quiet (fail)
              go_wp2_with fail
              go_ret
              refine ⟨?_, _, rfl⟩
              rw [HR.out]
              rfl
          · have c1 : ((x[q].toNat : Int) != 47) = false := by unfold bne; rw [b1]; rfl
            cases b2 : ((y[q].toNat : Int) == 47)
            · have c2 : ((y[q].toNat : Int) != 47) = true := by unfold bne; rw [b2]; rfl
              have HR := Lib.hid (HP.out.differ hq1 hq2 hq3 (HQ.out.done (fun hx hy e => e.1 (isB 47 47 rfl b1))) (fun e => by
                  rcases e.2 with e | e
                  · omega
                  · exact no_at lty b2 e))
              go_wp2_with fail
              go_big_quiet (fail)
              go_wp2_with fail
              go_ret
              refine ⟨?_, _, rfl⟩
              rw [HR.out]
              rfl
            · have c2 : ((y[q].toNat : Int) != 47) = false := by unfold bne; rw [b2]; rfl
              have hs := HP.out.same hq1 hq2 hq3 (HQ.out.done (fun hx hy e => e.1 (isB 47 47 rfl b1))) (.inr (at_of ltx (isB 47 47 rfl b1))) (.inr (at_of lty (isB 47 47 rfl b2)))
              have HR := Lib.hid (HP.out.next hq1 ltx lty hs.1 hs.2)
              clear hs
              go_wp2_with fail
              go_big_quiet (fail)
              go_wp2_with fail
              go_roundg (x.size + 1 - (q + 1))
              case measure => omega
              case rel =>
                obtain ⟨u', xs', v', ys', h⟩ := HR.out
                exact ⟨n + 1, q + 1, u', xs', v', ys', h, by go_num, by go_num, rfl, _, rfl⟩
        · obtain rfl : q = y.size := by omega
          have n1 : ((y.size : Int) == (x.size : Int)) = false := by rw [beq_eq_false_iff_ne]; omega
          cases b1 : ((x[y.size].toNat : Int) == 47)
          · have HR := Lib.hid (HP.out.differ hq1 hq2 hq3 (HQ.out.done (fun hx hy e => lty hy)) (fun e => by
                rcases e.1 with e | e
                · omega
                · exact no_at ltx b1 e))
            go_wp2_with fail
            go_big_quiet (fail)
            go_wp2_with fail
            go_ret
            refine ⟨?_, _, rfl⟩
            rw [HR.out]
            rfl
          · have hs := HP.out.same hq1 hq2 hq3 (HQ.out.done (fun hx hy e => lty hy)) (.inr (at_of ltx (isB 47 47 rfl b1))) (.inl rfl)
            have HR := Lib.hid (HP.out.stop hq1 hs.1 hs.2 (.inr rfl))
            clear hs
            go_wp2_with fail
            go_big_quiet (fail)
            go_wp2_with fail
            go_ret
            refine ⟨?_, _, rfl⟩
            rw [HR.out]
            rfl
      · obtain rfl : q = x.size := by omega
        by_cases lty : x.size < y.size
        · have n2 : ((x.size : Int) == (y.size : Int)) = false := by rw [beq_eq_false_iff_ne]; omega
          cases b2 : ((y[x.size].toNat : Int) == 47)
          · have HR := Lib.hid (HP.out.differ hq1 hq2 hq3 (HQ.out.done (fun hx hy e => ltx hx)) (fun e => by
                rcases e.2 with e | e
                · omega
                · exact no_at lty b2 e))
            go_wp2_with fail
            go_big_quiet (fail)
            go_wp2_with fail
            go_ret
            refine ⟨?_, _, rfl⟩
            rw [HR.out]
            rfl
          · have hs := HP.out.same hq1 hq2 hq3 (HQ.out.done (fun hx hy e => ltx hx)) (.inl rfl) (.inr (at_of lty (isB 47 47 rfl b2)))
            have HR := Lib.hid (HP.out.stop hq1 hs.1 hs.2 (.inl rfl))
            clear hs
            go_wp2_with fail
            go_big_quiet (fail)
            go_wp2_with fail
            go_ret
            refine ⟨?_, _, rfl⟩
            rw [HR.out]
            rfl
        · have hyx : x.size = y.size := by omega
          have hs := HP.out.same hq1 hq2 hq3 (HQ.out.done (fun hx hy e => ltx hx)) (.inl rfl) (.inl hyx)
          have HR := Lib.hid (HP.out.stop hq1 hs.1 hs.2 (.inl rfl))
          have n2 : ((x.size : Int) == (y.size : Int)) = true := by rw [beq_iff_eq]; omega
          clear hs hyx
          go_wp2_with fail
          go_big_quiet (fail)
          go_wp2_with fail
          go_ret
          refine ⟨?_, _, rfl⟩
          rw [HR.out]
          rfl
end Go.Proofs.YtcpaepfhjhcaoaaDoor
