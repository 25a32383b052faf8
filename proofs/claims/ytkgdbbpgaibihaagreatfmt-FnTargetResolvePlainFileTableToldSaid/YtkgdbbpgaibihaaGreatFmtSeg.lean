/-
  The contracts of zzIndexAny at "/\\" and of findInvalidSegment at a text without a separator, and at "./" and a text without one; conditions: the sizes that they name.
-/
import Derived.Test.YtkgdbbpgaibihaaGreatFmtZz
import Derived.Lib.OthersKept
import Derived.Deep.LoopGhost
namespace Go.Proofs.YtkgdbbpgaibihaaGreatFmt
open Go.RowKit

def CH : ByteArray := ⟨#[47, 92]⟩
theorem iter_below (w : World) (s : ByteArray) (i : Nat) : Below w.heap.size w (w.iter s i) := by
  unfold World.iter
  exact (Below.refl _ _).alloc (Nat.le_refl _) _

/-- Where the first separator stands: at n, or nowhere when n is the text's length. -/
def FirstSep (s : ByteArray) (n : Nat) : Prop := n ≤ s.size ∧ (∀ j b, j < n → s.data.toList[j]? = some b → sepB b = false) ∧ ∀ b, s.data.toList[n]? = some b → sepB b = true
def sepAt (s : ByteArray) (n : Nat) : Int := if n < s.size then (n : Int) else -1

def OutRel (s : ByteArray) (n : Nat) (w : World) (gk : Nat) (wx : World) : Prop :=
  ∃ pos : Nat, wx.heap[w.heap.size]? = some (.stringIter s pos) ∧ Below w.heap.size w wx ∧ s.size ≤ pos + gk ∧ pos ≤ n
def InRel (s : ByteArray) (p0 R : Nat) (w w0 : World) (gk : Nat) (wx : World) : Prop :=
  ∃ q : Nat, wx.heap[w0.heap.size]? = some (.stringIter CH q) ∧ wx.heap[w.heap.size]? = some (.stringIter s p0) ∧ Below w.heap.size w wx ∧ 2 ≤ q + gk ∧ q ≤ 2 ∧ (1 ≤ q → R ≠ 47) ∧ (2 ≤ q → R ≠ 92)

set_option maxHeartbeats 4000000 in
set_option maxRecDepth 100000 in
theorem idxAny_any (s : ByteArray) (n : Nat) (w : World) (hf : FirstSep s n) :
    Calls Tryz.prog 31 #[.string s, .string CH] w fun e w' => e = .returned (.int .i64 (sepAt s n)) ∧ Below w.heap.size w w' := by
  obtain ⟨hn, hfree, hat⟩ := hf
  have HF := Lib.hid hfree
  have HA := Lib.hid hat
  clear hfree hat
  go_enter Tryz.func31, Tryz.ntmps31
  go_wp2_with fail
  go_loopg [5] s.size (fun gk v5 wx => OutRel s n w gk wx)
  case atStart => exact ⟨0, World.iter_heap w s 0, iter_below _ s 0, by omega, by omega⟩
  case round =>
    obtain ⟨pos, hit, hbw, hfu, hps⟩ := hrel
    have hsz := hbw.size
    by_cases hlt : pos < s.size
    · obtain ⟨g1, rfl⟩ : ∃ g1, gk = g1 + 1 := ⟨gk - 1, by omega⟩
      obtain ⟨b, hb⟩ : ∃ b, s.data.toList[pos]? = some b := ⟨_, Lib.data_getElem? s pos hlt⟩
      have hff := first_facts s pos b hb
      have hnx : ∀ ty, (Instr.next (.pointer (some ⟨w.heap.size, 0, none⟩)) true ty).run Tryz.prog wr = _ := fun ty => Lib.run_next_any_at wr w.heap.size s pos ty hit hlt
      have hwd := Lib.width_pos s pos
      have hrl := Lib.rune_le s pos
      have hwn : pos + (Utf8.decode s pos).2 ≤ s.size := by
        have hlen : s.data.toList.length = s.size := (Lib.size_eq s).symm
        have hne : s.data.toList.drop pos ≠ [] := by
          intro h0
          have := congrArg List.length h0
          rw [List.length_drop, hlen] at this
          simp at this
          omega
        have := Lib.decodeL_le _ hne
        rw [Lib.decodeL_drop, List.length_drop, hlen] at this
        omega
      obtain ⟨R, hR⟩ : ∃ R, (Utf8.decode s pos).1 = R := ⟨_, rfl⟩
      obtain ⟨K, hK⟩ : ∃ K, (Utf8.decode s pos).2 = K := ⟨_, rfl⟩
      rw [hR, hK] at hnx
      rw [hK] at hwd hwn
      rw [hR] at hrl
      rw [hR, hK] at hff
      have hit2 := Lib.iterAt_heap wr w.heap.size s pos (pos + K) hit
      have hbw2 := Lib.below_iterAt hbw (k := w.heap.size) (by omega) s (pos + K)
      obtain ⟨W, hWd⟩ : ∃ W, wr.iterAt w.heap.size s (pos + K) = W := ⟨_, rfl⟩
      rw [hWd] at hnx hit2 hbw2
      have HB := Lib.hid (And.intro hit2 hbw2)
      have hszW : w.heap.size < W.heap.size := (Array.getElem?_eq_some_iff.1 hit2).1
      have HX := Lib.hid (show (R = 47 ∨ R = 92) ∧ pos = n ∨ (R ≠ 47 ∧ R ≠ 92) ∧ pos + K ≤ n by
        cases hsb : sepB b
        · have h2 := hff.2 hsb
          refine .inr ⟨⟨h2.1, h2.2.1⟩, Nat.le_of_not_lt fun hlt2 => ?_⟩
          by_cases hns : n < s.size
          · have hgn : s.data.toList[n]? = some s[n] := Lib.data_getElem? s n hns
            have e1 := HA.out _ hgn
            have e2 := h2.2.2 n _ hps hlt2 hgn
            rw [e1] at e2
            cases e2
          · omega
        · have h1 := hff.1 hsb
          refine .inl ⟨?_, ?_⟩
          · have := congrArg Prod.fst h1
            simp only at this
            rw [← hR, this]
            exact (sep_iff b).1 hsb
          · refine Nat.le_antisymm hps (Nat.le_of_not_lt fun h => ?_)
            rw [HF.out pos b h hb] at hsb
            cases hsb)
      clear hit hbw hWd hR hK hff hit2 hbw2 hb
      go_wp2_with fail
      go_loopg [8] 2 (fun g2 v8 wx => InRel s (pos + K) R w W g2 wx)
      case atStart =>
        have hib := iter_below W CH 0
        refine ⟨0, World.iter_heap W CH 0, ?_, HB.out.2.trans (hib.mono (by omega)), by omega, by omega, by omega, by omega⟩
        rw [hib.block _ (by omega)]
        exact HB.out.1
      case round =>
        obtain ⟨q, hq1, hq2, hq3, hq4, hq5, hq6, hq7⟩ := hrel
        have hsz2 : W.heap.size < wr.heap.size := (Array.getElem?_eq_some_iff.1 hq1).1
        have hne : w.heap.size ≠ W.heap.size := by omega
        by_cases h0 : q = 0
        · subst h0
          obtain ⟨g2, rfl⟩ : ∃ g2, gk = g2 + 1 := ⟨gk - 1, by omega⟩
          have hnx2 : ∀ ty, (Instr.next (.pointer (some ⟨W.heap.size, 0, none⟩)) true ty).run Tryz.prog wr = .ok (.tuple #[.bool true, .int .i64 0, .int .i32 47]) (wr.iterAt W.heap.size CH 1) := fun ty => Lib.run_next_ascii_at wr W.heap.size CH 0 ty hq1 (by decide) (by decide)
          have hq8 := Lib.iterAt_heap wr W.heap.size CH 0 1 hq1
          have hq9 : (wr.iterAt W.heap.size CH 1).heap[w.heap.size]? = some (.stringIter s (pos + K)) := by
            rw [← hq2]; simp [World.iterAt, hne.symm]
          have hq10 := Lib.below_iterAt hq3 (k := W.heap.size) (by omega) CH 1
          obtain ⟨W2, hW2⟩ : ∃ W2, wr.iterAt W.heap.size CH 1 = W2 := ⟨_, rfl⟩
          rw [hW2] at hnx2 hq8 hq9 hq10
          have HQ := Lib.hid (And.intro hq8 (And.intro hq9 hq10))
          clear hW2 hq8 hq9 hq10 hq1 hq2 hq3 hnx
          by_cases hr : R = 47
          · subst hr
            go_wp2_with fail
            go_ret
            refine ⟨ret_int ?_, HQ.out.2.2⟩
            rcases HX.out with ⟨_, h⟩ | ⟨h, _⟩
            · unfold sepAt
              rw [if_pos (by omega), h]
            · exact absurd rfl h.1
          · have hrb : ((R : Int) == 47) = false := by rw [beq_eq_false_iff_ne]; omega
            go_wp2_with fail
            go_roundg g2
            case measure => omega
            case rel => exact ⟨1, HQ.out.1, HQ.out.2.1, HQ.out.2.2, by omega, by omega, fun _ => hr, by omega⟩
        · by_cases h1 : q = 1
          · subst h1
            obtain ⟨g2, rfl⟩ : ∃ g2, gk = g2 + 1 := ⟨gk - 1, by omega⟩
            have hnx2 : ∀ ty, (Instr.next (.pointer (some ⟨W.heap.size, 0, none⟩)) true ty).run Tryz.prog wr = .ok (.tuple #[.bool true, .int .i64 1, .int .i32 92]) (wr.iterAt W.heap.size CH 2) := fun ty => Lib.run_next_ascii_at wr W.heap.size CH 1 ty hq1 (by decide) (by decide)
            have hq8 := Lib.iterAt_heap wr W.heap.size CH 1 2 hq1
            have hq9 : (wr.iterAt W.heap.size CH 2).heap[w.heap.size]? = some (.stringIter s (pos + K)) := by
              rw [← hq2]; simp [World.iterAt, hne.symm]
            have hq10 := Lib.below_iterAt hq3 (k := W.heap.size) (by omega) CH 2
            obtain ⟨W2, hW2⟩ : ∃ W2, wr.iterAt W.heap.size CH 2 = W2 := ⟨_, rfl⟩
            rw [hW2] at hnx2 hq8 hq9 hq10
            have HQ := Lib.hid (And.intro hq8 (And.intro hq9 hq10))
            clear hW2 hq8 hq9 hq10 hq1 hq2 hq3 hnx
            by_cases hr : R = 92
            · subst hr
              go_wp2_with fail
              go_ret
              refine ⟨ret_int ?_, HQ.out.2.2⟩
              rcases HX.out with ⟨_, h⟩ | ⟨h, _⟩
              · unfold sepAt
                rw [if_pos (by omega), h]
              · exact absurd rfl h.2
            · have hrb : ((R : Int) == 92) = false := by rw [beq_eq_false_iff_ne]; omega
              have HR := Lib.hid (hq6 (Nat.le_refl _))
              go_wp2_with fail
              go_roundg g2
              case measure => omega
              case rel => exact ⟨2, HQ.out.1, HQ.out.2.1, HQ.out.2.2, by omega, by omega, fun _ => HR.out, fun _ => hr⟩
          · obtain rfl : q = 2 := by omega
            have hnx2 : ∀ ty, (Instr.next (.pointer (some ⟨W.heap.size, 0, none⟩)) true ty).run Tryz.prog wr = _ := fun ty => Lib.run_next_end_at wr W.heap.size CH 2 ty hq1 (by decide)
            have HQ := Lib.hid (And.intro hq2 (And.intro hq3 (And.intro (hq6 (by omega)) (hq7 (by omega)))))
            clear hq1 hq2 hq3 hq6 hq7 hnx
            go_wp2_with fail
            go_roundg g1
            case measure => omega
            case rel =>
              refine ⟨pos + K, HQ.out.1, HQ.out.2.1, by omega, ?_⟩
              rcases HX.out with ⟨h, _⟩ | ⟨_, h⟩
              · rcases h with h | h
                · exact absurd h HQ.out.2.2.1
                · exact absurd h HQ.out.2.2.2
              · exact h
    · obtain rfl : n = s.size := by omega
      have hnx : ∀ ty, (Instr.next (.pointer (some ⟨w.heap.size, 0, none⟩)) true ty).run Tryz.prog wr = _ := fun ty => Lib.run_next_end_at wr w.heap.size s pos ty hit hlt
      have HB := Lib.hid hbw
      clear hit hbw
      go_wp2_with fail
      go_ret
      refine ⟨ret_int ?_, HB.out⟩
      unfold sepAt
      rw [if_neg (by omega)]

theorem free_first (s : ByteArray) (h : Free s.data.toList) : FirstSep s s.size := by
  refine ⟨Nat.le_refl _, fun j b _ hb => h b (List.mem_of_getElem? hb), fun b hb => ?_⟩
  have := (List.getElem?_eq_some_iff.1 hb).1
  rw [← Lib.size_eq] at this
  omega
theorem idx_free (s : ByteArray) (w : World) (h : Free s.data.toList) : Calls Tryz.prog 31 #[.string s, .string CH] w fun e w' => e = .returned (.int .i64 (-1)) ∧ Below w.heap.size w w' := by
  have := idxAny_any s s.size w (free_first s h)
  unfold sepAt at this
  rwa [if_neg (Nat.lt_irrefl _)] at this
theorem idx_dot (s : ByteArray) (f : List UInt8) (w : World) (h : s.data.toList = 46 :: 47 :: f) : Calls Tryz.prog 31 #[.string s, .string CH] w fun e w' => e = .returned (.int .i64 1) ∧ Below w.heap.size w w' := by
  have h2 : 2 ≤ s.size := by rw [Lib.size_eq, h]; simp
  have hf : FirstSep s 1 := by
    refine ⟨by omega, fun j b hj hb => ?_, fun b hb => ?_⟩
    · obtain rfl : j = 0 := by omega
      rw [h] at hb
      obtain rfl := Option.some.inj hb
      rfl
    · rw [h] at hb
      obtain rfl := Option.some.inj hb
      rfl
  have := idxAny_any s 1 w hf
  unfold sepAt at this
  rwa [if_pos (by omega)] at this

set_option maxHeartbeats 400000 in
theorem seg_free (s : ByteArray) (w : World) (h : Free s.data.toList) : Calls Tryz.prog 21 #[.string s] w fun e w' => e = .returned (.string (S [])) ∧ Below w.heap.size w w' := by
  have H := Lib.hid h
  clear h
  go_enter Tryz.func21, Tryz.ntmps21
  go_wp2_with (go_at_call 31; refine (idx_free s _ H.out).mono ?_; rintro e w' ⟨rfl, hb⟩)
  go_ret
  exact ⟨rfl, hb⟩

def segOf (f : List UInt8) : List UInt8 := if badS f then f else []
set_option maxHeartbeats 2000000 in
theorem seg_dot (s : ByteArray) (f : List UInt8) (w : World) (h : s.data.toList = 46 :: 47 :: f) (hf : Free f) (hs : s.size ≤ 1073741824) : Calls Tryz.prog 21 #[.string s] w fun e w' => e = .returned (.string (S (segOf f))) ∧ Below w.heap.size w w' := by
  have h2 : 2 ≤ s.size := by rw [Lib.size_eq, h]; simp
  have he : s.extract 2 s.size = S f := by
    rw [extract_S, h]
    simp only [List.drop_succ_cons, List.drop_zero]
    rw [List.take_of_length_le]
    rw [Lib.size_eq, h]
    simp
  obtain ⟨p, hp⟩ : ∃ p, S f = p := ⟨_, rfl⟩
  have hpl : p.data.toList = f := by rw [← hp, S_data]
  have hpt : p.toList = f := by rw [← hp, S_toList]
  rw [hp] at he
  have H := Lib.hid (And.intro h (And.intro hf (And.intro hpl (And.intro hpt hp))))
  have hps : p.size ≤ 1073741824 := by rw [← he]; simp only [ByteArray.size_extract]; omega
  clear h hf hpl hpt hp
  go_enter Tryz.func21, Tryz.ntmps21
  go_wp2_with (go_at_call 31; refine (idx_dot s f _ H.out.1).mono ?_; rintro e w' ⟨rfl, hb⟩)
  go_loopw [0] (fun v wx => ((v = .string p) ∨ (v = .string ⟨#[]⟩ ∧ badS f = false)) ∧ Below w.heap.size w wx) (fun v _ => match v with | .string t => t.size | _ => 0)
  case atStart => exact ⟨.inl rfl, hb⟩
  case round =>
    obtain ⟨hv, hbw⟩ := hrel
    have HB := Lib.hid hbw
    clear hbw hb
    rcases hv with rfl | ⟨rfl, hbad⟩
    · have E := Lib.hid (show badS f = (p.toList == [46] || p.toList == [46, 46] || p.toList == nodeM) by rw [H.out.2.2.2.1]; rfl)
      cases he0 : p.toList.isEmpty
      · cases h1 : (p.toList == [46]) <;> cases h2 : (p.toList == [46, 46]) <;> cases h3 : (p.toList == [110, 111, 100, 101, 95, 109, 111, 100, 117, 108, 101, 115])
        all_goals (
          have H1 := Lib.hid (And.intro h1 (And.intro h2 h3))
          go_wp2_with (go_at_call 31; refine (idx_free p _ (by rw [H.out.2.2.1]; exact H.out.2.1)).mono ?_; rintro e w' ⟨rfl, hb⟩)
          have hb2 := HB.out.trans (hb.mono HB.out.size)
          have hE := E.out
          unfold nodeM at hE
          rw [h1, h2, h3] at hE
          first
            | (refine ⟨⟨.inr ⟨rfl, hE⟩, hb2⟩, ?_⟩
               show 0 < p.size
               have : p.toList ≠ [] := fun e => by rw [e] at he0; cases he0
               rw [Lib.size_eq, ← Lib.toList_data]
               exact List.length_pos_iff.2 this)
            | (go_ret
               refine ⟨ret_str ?_, hb2⟩
               rw [← H.out.2.2.2.2]
               unfold segOf
               rw [hE]
               rfl))
      · go_wp2_with fail
        go_ret
        refine ⟨ret_str ?_, HB.out⟩
        have : f = [] := by rw [← H.out.2.2.2.1]; exact List.isEmpty_iff.1 he0
        rw [this]
        rfl
    · have HD := Lib.hid hbad
      clear hbad
      go_wp2_with fail
      go_ret
      refine ⟨ret_str ?_, HB.out⟩
      unfold segOf
      rw [HD.out]
      rfl

end Go.Proofs.YtkgdbbpgaibihaaGreatFmt
