/-
  sort.(*xorshift).Next, sort.nextPowerOfTwo, sort.breakPatterns over the elements: the range is permuted; conditions: those that each lemma names (LenC: the contract of bits.Len).
-/
import Derived.Test.YtmnoffiblcnjpaaPiv
import Derived.Sort.LotD5
import Derived.Laws.Bits64
import Derived.Laws.Bits64b
import Derived.Lib.BitFns
namespace Go.Proofs.Ytmnoffiblcnjpaa
open Go.RowKit Go.Sort

def LenC : Prop := ∀ (x : Int) (w : World), 0 ≤ x → x ≤ 18446744073709551615 → Calls Try.prog 18 #[.int .u64 x] w fun e w' => e = .returned (.int .i64 (Lib.bitLen x.toNat)) ∧ w' = w
theorem bits_len (x : Nat) (h : x < 2 ^ 64) : Lib.bitLen x = bitsLen x := by
  induction x using Nat.strongRecOn with
  | _ x ih =>
    by_cases h0 : x = 0
    · subst h0; rfl
    · rw [Lib.bitLen_half x h0 h, ih (x / 2) (by omega) (by omega)]
      unfold bitsLen
      rw [if_neg h0, Nat.log2_def x]
      by_cases h2 : 2 ≤ x
      · rw [if_pos h2, if_neg (by omega)]; omega
      · obtain rfl : x = 1 := by omega
        simp
theorem set_set (w : World) (blk off : Nat) (v v' : Value) : (w.setCell ⟨blk, off, none⟩ v).setCell ⟨blk, off, none⟩ v' = w.setCell ⟨blk, off, none⟩ v' := by
  rw [setCell_eq, setCell_eq, mapBlock_mapBlock, setCell_eq]
  congr 1
  funext c
  simp
theorem nxt (rb ro X : Nat) (hX : X < 18446744073709551616) (w : World) (hc : w.cell? ⟨rb, ro, none⟩ = some (.int .u64 X)) (hf : w.frozen? ⟨rb, ro, none⟩ = false) :
    Calls Try.prog 36 #[.pointer (some ⟨rb, ro, none⟩)] w fun e w' => e = .returned (.int .u64 (xorNextN X : Nat)) ∧ w' = (w.setCell ⟨rb, ro, none⟩ (.int .u64 (xorNextN X : Nat))).drewN 3 := by
  obtain ⟨A, hA⟩ : ∃ A : Nat, A = X ^^^ (X * 8192 % 18446744073709551616) := ⟨_, rfl⟩
  obtain ⟨B, hB⟩ : ∃ B : Nat, B = A ^^^ (A / 128) := ⟨_, rfl⟩
  obtain ⟨C, hC⟩ : ∃ C : Nat, C = B ^^^ (B * 131072 % 18446744073709551616) := ⟨_, rfl⟩
  have lA : A < 18446744073709551616 := by rw [hA]; exact Nat.xor_lt_two_pow (n := 64) (by omega) (by omega)
  have lB : B < 18446744073709551616 := by rw [hB]; exact Nat.xor_lt_two_pow (n := 64) (by omega) (by omega)
  have e1 : bits .xor .u64 (X : Int) (IntKind.u64.wrap ((X : Int) * 8192)) = (A : Int) := by
    rw [IntKind.wrap_u64, show ((X : Int) * 8192 % 18446744073709551616) = ((X * 8192 % 18446744073709551616 : Nat) : Int) by omega, bits_xor_u64_nat _ _ hX (by omega), hA]
  have e2 : bits .xor .u64 (A : Int) ((A : Int) / 128) = (B : Int) := by
    rw [show ((A : Int) / 128) = ((A / 128 : Nat) : Int) by omega, bits_xor_u64_nat _ _ lA (by omega), hB]
  have e3 : bits .xor .u64 (B : Int) (IntKind.u64.wrap ((B : Int) * 131072)) = (C : Int) := by
    rw [IntKind.wrap_u64, show ((B : Int) * 131072 % 18446744073709551616) = ((B * 131072 % 18446744073709551616 : Nat) : Int) by omega, bits_xor_u64_nat _ _ lB (by omega), hC]
  have hv : xorNextN X = C := by unfold xorNextN; simp only []; rw [← hA, ← hB, ← hC]
  rw [hv]
  clear hA hB hC hv
  have hss : ∀ v v', (w.setCell ⟨rb, ro, none⟩ v).setCell ⟨rb, ro, none⟩ v' = w.setCell ⟨rb, ro, none⟩ v' := set_set w rb ro
  go_enter Try.func36, Try.ntmps36
  go_wp2
  go_region
  all_goals go_wp2
  all_goals go_region
  all_goals go_wp2
  all_goals go_region
  all_goals go_wp2
  go_ret
  exact ⟨rfl, rfl⟩
theorem wrap_pow (k : Nat) (hk : k ≤ 62) : IntKind.u64.wrap ((2 : Int) ^ k) = ((1 <<< k : Nat) : Int) := by
  have h : (2 : Nat) ^ k ≤ 2 ^ 62 := Nat.pow_le_pow_right (by decide) hk
  rw [IntKind.wrap_u64, Nat.one_shiftLeft, show ((2 : Int) ^ k) = ((2 ^ k : Nat) : Int) by push_cast; rfl]
  generalize (2 : Nat) ^ k = p at h
  omega
theorem npow (H : LenC) (n : Nat) (hn : n < 4611686018427387904) (w : World) :
    Calls Try.prog 35 #[.int .i64 n] w fun e w' => e = .returned (.int .u64 ((1 <<< bitsLen n : Nat) : Int)) ∧ w' = w := by
  have hLen : ∀ w, Calls Try.prog 18 #[.int .u64 (n : Int)] w fun e w' => e = .returned (.int .i64 (bitsLen n : Nat)) ∧ w' = w := fun w => by
    have h := H (n : Int) w (by omega) (by omega)
    rwa [Int.toNat_natCast, bits_len _ (by omega)] at h
  have hk : bitsLen n ≤ 62 := (bitsLen_le_iff n 62).2 (by omega)
  have hp := wrap_pow (bitsLen n) hk
  clear H
  go_enter Try.func35, Try.ntmps35
  go_wp2_with (first | (go_at_call 18; refine (hLen _).mono ?_; rintro e w' ⟨rfl, rfl⟩))
  go_ret
  exact ⟨rfl, rfl⟩

/-- The state of the generator of numbers: block q, that came after w0. -/
structure Rn (w0 : World) (g N : Nat) (d : Array El) (q : Nat) (w : World) : Prop where
  r : R w0 g N d w
  lo : w0.heap.size ≤ q
  row : ∃ X : Nat, X < 18446744073709551616 ∧ Row w q 77 1 (fun _ => .int .u64 X)
def NxtPost (w0 : World) (g N : Nat) (d : Array El) (q : Nat) (w : World) (e : Ending) (w' : World) : Prop := ∃ X : Nat, X < 18446744073709551616 ∧ e = .returned (.int .u64 X) ∧ Rn w0 g N d q w' ∧ Upx w0 q w w'
theorem nxt_any {w0 w : World} {g N q : Nat} {d : Array El} (h : Rn w0 g N d q w) : Calls Try.prog 36 #[.pointer (some ⟨q, 0, none⟩)] w (NxtPost w0 g N d q w) := by
  obtain ⟨X, hX, hr⟩ := h.row
  refine (nxt q 0 X hX w (hr.cell (i := 0) (by omega)) (hr.frozen 0)).mono ?_
  rintro e w' ⟨rfl, rfl⟩
  have hgs : Gs q w ((w.setCell ⟨q, 0, none⟩ (.int .u64 (xorNextN X : Nat))).drewN 3) := by
    have k := (Gs.refl q w).set 0 (.int .u64 (xorNextN X : Nat))
    exact ⟨k.os, k.tape, k.output, k.size, k.block⟩
  have lX := xorNextN_lt X hX
  refine ⟨_, lX, rfl, ⟨h.r.keep ⟨hgs.os, hgs.tape, hgs.output, by rw [hgs.size]; exact Nat.le_refl _, fun i hi => hgs.block i (by have := h.lo; omega)⟩, h.lo, _, lX, ((hr.set 0 _).congr fun i hi => by rw [if_pos (by omega)]).drewN 3⟩, by rw [hgs.size]; exact Nat.le_refl _, fun i _ _ hn => hgs.block i hn⟩
theorem Rn.up {w0 w w' : World} {g N q : Nat} {d d' : Array El} (h : Rn w0 g N d q w) (hR : R w0 g N d' w') (k : Up w0 w w') : Rn w0 g N d' q w' := by
  obtain ⟨v, hv, hr⟩ := h.row
  refine ⟨hR, h.lo, v, hv, ?_⟩
  have hl := hr.lt
  obtain ⟨cs, h1, h2, h3⟩ := hr
  exact ⟨cs, (k.2 q h.lo hl).trans h1, h2, h3⟩
theorem rn_new {w0 w : World} {g N L : Nat} {d : Array El} (h : R w0 g N d w) (hL : L < 18446744073709551616) {W : World} (hW : W = w.alloc (.cells #[.int .u64 L] 77)) : Rn w0 g N d w.heap.size W ∧ w.heap.size < W.heap.size ∧ ∀ k, k < w.heap.size → W.heap[k]? = w.heap[k]? := by
  subst hW
  have hb : Below w.heap.size w (w.alloc (.cells #[.int .u64 L] 77)) := (Below.refl _ _).alloc (Nat.le_refl _) _
  refine ⟨⟨h.up hb, h.big, L, hL, Row.new w 77 #[.int .u64 L] 1 _ rfl ?_⟩, by simp, fun k hk => hb.block k hk⟩
  intro i hi
  obtain rfl : i = 0 := by omega
  rfl
def BrkPost (w0 : World) (g N a b : Nat) (d : Array El) (w : World) (e : Ending) (w' : World) : Prop := ∃ d' : Array El, e = .returned (.tuple #[]) ∧ R w0 g N d' w' ∧ Up w0 w w' ∧ PermIn a b d d'
set_option maxHeartbeats 4000000 in
set_option maxRecDepth 100000 in
theorem brk_go (HL : LenC) {w0 w : World} {g N : Nat} {d : Array El} (h : R w0 g N d w) (hN : N ≤ 65536) (a L : Nat) (h8 : 8 ≤ L) (hb : a + L ≤ N) :
    Calls Try.prog 26 #[dv g N, .int .i64 a, .int .i64 ((a + L : Nat) : Int)] w (BrkPost w0 g N a (a + L) d w) := by
  obtain ⟨M, hM⟩ : ∃ M : Nat, M = 1 <<< bitsLen L := ⟨_, rfl⟩
  have hM1 : 1 ≤ M := by rw [hM, Nat.one_shiftLeft]; exact Nat.two_pow_pos _
  have hM2 : M ≤ 2 * L := by rw [hM, Nat.one_shiftLeft]; exact two_pow_bitsLen_le (by omega)
  have hNP : ∀ w, Calls Try.prog 35 #[.int .i64 (L : Int)] w fun e w' => e = .returned (.int .u64 (M : Int)) ∧ w' = w := by rw [hM]; exact fun w => npow HL L (by omega) w
  have mS := meth_swap g N
  clear hM HL
  have HN := Lib.hid (rn_new (L := L) h (by omega) rfl)
  clear h
  go_enter Try.func26, Try.ntmps26
  go_wp2_with (first | (go_at_call 35; rw [show ((a : Int) + (L : Int) - (a : Int)) = (L : Int) by omega]; refine (hNP _).mono ?_; rintro e w' ⟨rfl, rfl⟩))
  go_loopw [9] (fun vi wr => ∃ (t : Nat) (dk : Array El), vi = .int .i64 ((a + L / 4 * 2 - 1 + t : Nat) : Int) ∧ t ≤ 3 ∧ Rn w0 g N dk w.heap.size wr ∧ Upx w0 w.heap.size (w.alloc (.cells #[.int .u64 L] 77)) wr ∧ PermIn a (a + L) d dk) (fun vi _ => a + L / 4 * 2 + 3 - (intOf vi).toNat)
  case atStart => exact ⟨0, d, by congr 1; omega, by omega, HN.out.1, Upx.refl _ _ _, permIn_refl _ _ _⟩
  case round =>
    obtain ⟨t, dk, rfl, ht, hR, hU, hP⟩ := hrel
    have HK := Lib.hid (And.intro hR (And.intro hU hP))
    clear hR hU hP
    by_cases ht3 : t < 3
    · go_wp2_with fail
      refine (nxt_any HK.out.1).mono ?_
      rintro e w1 ⟨X, hX, rfl, hR1, hU1⟩
      have H1 := Lib.hid (And.intro hR1 (HK.out.2.1.trans hU1))
      clear hR1 hU1
      obtain ⟨O, hO⟩ : ∃ O : Nat, O = X &&& (M - 1) := ⟨_, rfl⟩
      have lO : O ≤ M - 1 := by rw [hO]; exact Nat.and_le_right
      have eAnd : bits .and .u64 (X : Int) ((M : Int) - 1) = (O : Int) := by
        rw [show ((M : Int) - 1) = ((M - 1 : Nat) : Int) by omega, bits_and_u64_nat _ _ hX (by omega), hO]
      clear hO
      by_cases hLO : L ≤ O
      · go_wp2_with fail
        refine (swap_at H1.out.1.r (a + L / 4 * 2 - 1 + t) (a + (O - L)) (by omega) (by omega) (by omega) (by omega)).mono ?_
        rintro e w2 ⟨rfl, hR2, hU2⟩
        go_wp2_with fail
        go_roundw
        case rel => exact ⟨t + 1, _, by congr 1 <;> omega, by omega, H1.out.1.up hR2 hU2, H1.out.2.trans (hU2.upx _), permIn_trans _ _ _ _ _ HK.out.2.2 (swp_permIn _ _ _ _ _ (by omega) (by omega) (by omega) (by omega) (by rw [H1.out.1.r.size]; omega))⟩
        case measure => simp [intOf]; omega
      · go_wp2_with fail
        refine (swap_at H1.out.1.r (a + L / 4 * 2 - 1 + t) (a + O) (by omega) (by omega) (by omega) (by omega)).mono ?_
        rintro e w2 ⟨rfl, hR2, hU2⟩
        go_wp2_with fail
        go_roundw
        case rel => exact ⟨t + 1, _, by congr 1 <;> omega, by omega, H1.out.1.up hR2 hU2, H1.out.2.trans (hU2.upx _), permIn_trans _ _ _ _ _ HK.out.2.2 (swp_permIn _ _ _ _ _ (by omega) (by omega) (by omega) (by omega) (by rw [H1.out.1.r.size]; omega))⟩
        case measure => simp [intOf]; omega
    · obtain rfl : t = 3 := by omega
      go_wp2_with fail
      go_end0
      exact ⟨dk, rfl, HK.out.1.r, ms_up HN.out.2.1 HN.out.2.2 HK.out.2.1, HK.out.2.2⟩
theorem brk_any (HL : LenC) {w0 w : World} {g N : Nat} {d : Array El} (h : R w0 g N d w) (hN : N ≤ 65536) (a b : Nat) (hab : a + 12 < b) (hb : b ≤ N) :
    Calls Try.prog 26 #[dv g N, .int .i64 a, .int .i64 b] w (BrkPost w0 g N a b d w) := by
  obtain ⟨L, rfl⟩ : ∃ L, b = a + L := ⟨b - a, by omega⟩
  exact brk_go HL h hN a L (by omega) hb
end Go.Proofs.Ytmnoffiblcnjpaa
