/-
  The contract of reading the arguments back; conditions: those that it names.
-/
import Derived.Test.YtjanppdeddfehaaFmtChk
import Derived.Laws.CopyOwn
import Derived.Deep.AppendLies
namespace Go.Proofs.YtjanppdeddfehaaFmt
open Go.RowKit

theorem infoStr : (Tryf.prog.info? 9).map (fun i => (i.zero, i.size, i.bytes)) = some (some (.string ⟨#[]⟩), 1, 16) := by kernel_rfl
theorem one_at (w : World) (v : Value) (t : TypeId) : ∀ j u, [v][j]? = some u → (w.alloc (.cells #[v] t)).cell? ((⟨w.heap.size, 0, none⟩ : Addr).add j) = some u := by
  intro j u hu
  cases j with
  | zero =>
    have : v = u := by simpa using hu
    subst this
    rw [Addr.add_zero']
    go_simp
  | succ j => simp at hu
/-- The texts of the arguments, every other one. -/
def evs (K : Nat → Tk) (m : Nat) : List Value := (List.range m).map fun i => .string (K (2 * i)).t
theorem evs_len (K : Nat → Tk) (m : Nat) : (evs K m).length = m := by simp [evs]
theorem evs_succ (K : Nat → Tk) (m : Nat) : evs K (m + 1) = evs K m ++ [.string (K (2 * m)).t] := by simp [evs, List.range_succ]
/-- Half of the way, rounded up. -/
def DRel (w : World) (K : Nat → Tk) (n m : Nat) (s4 s5 : Value) (wr : World) : Prop :=
  ∃ j : Nat, j ≤ n ∧ s5 = .int .i64 (j : Int) ∧ s4 = .slice (some ⟨w.heap.size, 0, none⟩) ((j + 1) / 2) m ∧ wr.ownsRow w.heap.size 9 1 (.slice (some ⟨w.heap.size, 0, none⟩) ((j + 1) / 2) m) ((j + 1) / 2) (evs K ((j + 1) / 2)) ∧ Below w.heap.size w wr
def DEnd (w : World) (K : Nat → Tk) (m : Nat) (e : Ending) (w' : World) : Prop := ∃ vb, e = .returned (.tuple #[.slice (some ⟨vb, 0, none⟩) m m, .bool true]) ∧ (∀ i, i < m → w'.cell? ⟨vb, i, none⟩ = some (.string (K (2 * i)).t)) ∧ w.heap.size ≤ vb ∧ Below w.heap.size w w'

set_option maxHeartbeats 2000000 in
set_option maxRecDepth 100000 in
theorem decode_any (g o n m cap : Nat) (K : Nat → Tk) (w : World) (h : Arg w g o K n) (ha : Alt K n) (hm : n + 1 = 2 * m) (hn : n ≤ 11) (hcap : n ≤ cap) : Calls Tryf.prog 9 #[.slice (some ⟨g, o, none⟩) n cap] w (DEnd w K m) := by
  obtain ⟨i0, hi, hz0, hz1, hz2⟩ := info_parts infoStr
  have HI := Lib.hid (And.intro hi (And.intro hz0 (And.intro hz1 hz2)))
  have H := Lib.hid (And.intro h (And.intro ha hm))
  have hm1 : 1 ≤ m := by omega
  have hm6 : m ≤ 6 := by omega
  have hn2 : ((n : Int) % 2 == 0) = false := by rw [beq_eq_false_iff_ne]; omega
  have hq1 : n + 1 ≤ 2 * m := by omega
  have hq2 : 2 * m ≤ n + 1 := by omega
  clear hi hz0 hz1 hz2 h ha hm
  go_enter Tryf.func9, Tryf.ntmps9
  go_wp2_with (at_make; refine wpList_make_own _ rfl _ _ 29 rfl w.heap.size 9 i0 (.string ⟨#[]⟩) 1 Tryf.underlying29 HI.out.1 HI.out.2.1 HI.out.2.2.1 _ _ _ m rfl rfl (by omega) (by rw [HI.out.2.2.2]; omega) (by unfold maxLen; omega) (Nat.le_refl _) ?_; intro w2 hown hgrow)
  have HO := Lib.hid (And.intro hown ((Below.refl _ _).grown hgrow (Nat.le_refl _) (fun k hk => by cases hk)))
  clear hown hgrow
  go_loopw [4, 5] (fun s4 s5 wr => DRel w K n m s4 s5 wr) (fun _ s5 _ => n - (intOf s5).toNat)
  case atStart => exact ⟨0, Nat.zero_le _, rfl, rfl, HO.out.1, HO.out.2⟩
  case round =>
    obtain ⟨j, hj, rfl, rfl, hown, hb⟩ := hrel
    have HR := Lib.hid (And.intro hown hb)
    clear hown hb hn2
    by_cases hlt : j < n
    · have ht := (H.out.1 j hlt).up HR.out.2
      have hk := H.out.2.1 j hlt
      have c5 := ht.c5
      have c1 := ht.c1
      rw [hk] at c5
      clear hk ht
      by_cases he : j % 2 = 0
      · rw [if_pos he] at c5
        have d0 : ((j : Int) % 2 == 0) = true := by rw [beq_iff_eq]; omega
        obtain ⟨i, hi⟩ : ∃ i, (j + 1) / 2 = i := ⟨_, rfl⟩
        have hi2 : 2 * i = j := by omega
        have hi3 : (j + 1 + 1) / 2 = i + 1 := by omega
        have HE := Lib.hid (And.intro hi (And.intro hi2 hi3))
        have him : i + 1 ≤ m := by have := H.out.2.2; omega
        have ho := HR.out.1
        rw [hi] at ho ⊢
        have HO2 := Lib.hid ho
        clear he ho hi hi2 hi3
        go_wp2_with (at_builtin; refine wpList_append_fits _ rfl _ _ 29 rfl w.heap.size 9 i0 1 Tryf.underlying29 HI.out.1 HI.out.2.2.1 w.heap.size i m (evs K i) rfl (HO2.out.alloc _) ⟨wr.heap.size, 0, none⟩ 1 1 [.string (K j).t] rfl rfl (one_at _ _ _) (by intro u hu; simp at hu; subst hu; rfl) (by omega) ?_; intro w4 hown4 hg4)
        have HR4 := Lib.hid (And.intro hown4 ((HR.out.2.alloc HR.out.2.size _).grown hg4 (Nat.le_trans HR.out.2.size (by simp)) (fun k hk => by cases hk; exact Nat.le_refl _)))
        clear hown4 hg4
        go_wp2_with fail
        go_roundw
        case rel => exact ⟨j + 1, by omega, by go_num, by rw [HE.out.2.2], by rw [HE.out.2.2, evs_succ, HE.out.2.1]; exact HR4.out.1, HR4.out.2⟩
        case measure => simp [intOf]; omega
      · rw [if_neg he] at c5
        have d0 : ((j : Int) % 2 == 0) = false := by rw [beq_eq_false_iff_ne]; omega
        have hi3 : (j + 1 + 1) / 2 = (j + 1) / 2 := by omega
        obtain ⟨i, hi⟩ : ∃ i, (j + 1) / 2 = i := ⟨_, rfl⟩
        have ho := HR.out.1
        rw [hi] at ho ⊢ hi3
        have HO2 := Lib.hid (And.intro ho hi3)
        clear he ho hi hi3
        go_wp2_with fail
        go_roundw
        case rel => exact ⟨j + 1, by omega, by go_num, by rw [HO2.out.2], by rw [HO2.out.2]; exact HO2.out.1, HR.out.2⟩
        case measure => simp [intOf]; omega
    · obtain rfl : j = n := by omega
      have hi : (j + 1) / 2 = m := by have := H.out.2.2; omega
      have ho := HR.out.1
      rw [hi] at ho ⊢
      have HO2 := Lib.hid ho
      clear ho hi
      go_wp2_with fail
      go_ret2
      refine ⟨w.heap.size, rfl, fun i hi => ?_, Nat.le_refl _, HR.out.2⟩
      have h1 := HO2.out.cells (g := w.heap.size) rfl i (.string (K (2 * i)).t) (by unfold evs; rw [List.getElem?_map, List.getElem?_range hi]; rfl)
      have e : (⟨w.heap.size, 0, none⟩ : Addr).add i = ⟨w.heap.size, i, none⟩ := by
        unfold Addr.add
        split
        · next h0 => rw [h0]
        · simp
      rwa [e] at h1
end Go.Proofs.YtjanppdeddfehaaFmt
