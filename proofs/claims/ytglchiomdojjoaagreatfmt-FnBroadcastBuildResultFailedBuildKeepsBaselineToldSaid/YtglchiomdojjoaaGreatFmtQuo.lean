/-
  QuoteForJSON at plain letters; conditions: those that each lemma names.
-/
import Derived.Test.YtglchiomdojjoaaGreatFmtFit
import Derived.Test.YtglchiomdojjoaaGreatFmtShelf
import Derived.Lib.RuneBytes
import Derived.Lib.BufSteps
import Derived.OwnWalk
import Derived.Laws.RangeAny
import Derived.Lib.OthersKept
import Derived.Deep.LoopGhost
import Derived.WalkSpells
import Derived.Deep.Cut
namespace Go.Proofs.YtglchiomdojjoaaGreatFmt
open Go.RowKit

set_option maxHeartbeats 1000000 in
set_option maxRecDepth 100000 in
theorem canp_any (c : Int) (h1 : 35 ≤ c) (h2 : c ≤ 126) (h3 : (c == 92) = false) (w : World) : Calls Tryz.prog 65 #[.int .i32 c, .bool false] w fun e w' => e = .returned (.bool true) ∧ w = w' := by
  have h4 : (c == 34) = false := by simp; omega
  have h5 : (c != 34) = true := by simp; omega
  have h6 : (c != 92) = true := by simp at h3 ⊢; exact h3
  go_enter Tryz.func65, Tryz.ntmps65
  go_wp2_with fail
  go_ret
  exact ⟨rfl, rfl⟩
set_option maxHeartbeats 1000000 in
set_option maxRecDepth 100000 in
theorem dec_any (s : ByteArray) (h0 : 0 < s.size) (hle : s.size ≤ 16777216) (ha : s[0].toNat < 128) (w : World) : Calls Tryz.prog 67 #[.string s] w fun e w' => e = .returned (.tuple #[.int .i32 (s[0].toNat : Int), .int .i64 1]) ∧ w = w' := by
  have h1 : (1 : Int) ≤ (s.size : Int) := by omega
  obtain ⟨n, hn⟩ : ∃ n, s[0].toNat = n := ⟨_, rfl⟩
  rw [hn] at ha ⊢
  go_enter Tryz.func67, Tryz.ntmps67
  go_wp2_with fail
  go_ret2
  exact ⟨rfl, rfl⟩
theorem pb_facts {c : UInt8} (h : PbC c) : 45 ≤ c.toNat ∧ c.toNat ≤ 122 ∧ ((c.toNat : Int) == 92) = false := by
  have h2 : 45 ≤ c.toNat ∧ c.toNat ≤ 122 ∧ c.toNat ≠ 92 := by
    unfold PbC NmC at h
    omega
  exact ⟨h2.1, h2.2.1, by simp; omega⟩
theorem all_at {C : UInt8 → Prop} {s : ByteArray} (h : AllC C s) (k : Nat) (hk : k < s.size) : C s[k] := by
  have e := at_get s k hk
  have hl : k < s.data.toList.length := by rw [← Lib.size_eq]; exact hk
  rw [getElem!_pos _ k hl] at e
  rw [← e]
  exact h _ (List.getElem_mem hl)
theorem rune_one (r : Int) (h0 : 0 ≤ r) (h : r < 128) : Lib.runeLen r = 1 := by
  unfold Lib.runeLen
  rw [if_neg (by omega), if_pos (by omega)]
theorem tail_first (s : ByteArray) (k : Nat) (hk : k < s.size) (h0 : 0 < (s.extract k s.size).size) : (s.extract k s.size)[0] = s[k] := by
  rw [ByteArray.getElem_extract]
  rfl
theorem infoU8q : (Tryz.prog.info? 5).map (fun i => (i.zero, i.size, i.bytes)) = some (some (.int .u8 0), 1, 1) := by kernel_rfl
def QuotePost (T : ByteArray) (w : World) (e : Ending) (w' : World) : Prop := ∃ v, e = .returned v ∧ Buf w.heap.size 5 v ([34] ++ T.data.toList ++ [34]) w w'
set_option maxHeartbeats 8000000 in
set_option maxRecDepth 100000 in
theorem quote_mid (T : ByteArray) (hT : AllC PbC T) (h0 : 0 < T.size) (hle : T.size ≤ 4194304) (w : World) : Calls Tryz.prog 49 #[.string T, .bool false, .int .u8 34] w (QuotePost T w) := by
  obtain ⟨i0, hi, hz0, hz1, hz2⟩ := info_parts infoU8q
  have HI := Lib.hid (And.intro hi (And.intro hz0 (And.intro hz1 hz2)))
  have HT := Lib.hid hT
  clear hi hz0 hz1 hz2 hT
  go_enter Tryz.func49, Tryz.ntmps49
  go_wp2_with fail
  go_loopw [7, 9] (fun s7 _ wr => ∃ pos : Nat, s7 = .int .i64 ((2 + pos : Nat) : Int) ∧ wr.heap[w.heap.size]? = some (.stringIter T pos) ∧ pos ≤ T.size ∧ Below w.heap.size w wr) (fun _ _ wr => T.size - wr.iterPos w.heap.size)
  case atStart =>
    refine ⟨0, rfl, ?_, Nat.zero_le _, by unfold World.iter; exact (Below.refl _ _).alloc (Nat.le_refl _) _⟩
    have := World.iter_heap w T 0
    simpa using this
  case round =>
    obtain ⟨pos, rfl, hit, hps, hbw⟩ := hrel
    have hsz : w.heap.size < wr.heap.size := (Array.getElem?_eq_some_iff.1 hit).1
    by_cases hp : pos < T.size
    · obtain ⟨f1, f2, f3⟩ := pb_facts (all_at HT.out pos hp)
      have hnx : ∀ ty, (Instr.next (.pointer (some ⟨w.heap.size, 0, none⟩)) true ty).run Tryz.prog wr = _ := fun ty => Lib.run_next_any_at wr w.heap.size T pos ty hit hp
      rw [decode_ascii T pos hp (by omega)] at hnx
      have hit2 := Lib.iterAt_heap wr w.heap.size T pos (pos + 1) hit
      have hbw2 := Lib.below_iterAt hbw (k := w.heap.size) (by omega) T (pos + 1)
      obtain ⟨r, hr⟩ : ∃ r, T[pos].toNat = r := ⟨_, rfl⟩
      simp only [hr] at hnx f1 f2 f3
      have c1 := canp_any (r : Int) (by omega) (by omega) f3
      have c2 := Tryz.utf8_RuneLen (r : Int)
      rw [rune_one (r : Int) (by omega) (by omega)] at c2
      have HC := Lib.hid (And.intro c1 (And.intro c2 (And.intro hit2 (And.intro hbw2 hit))))
      clear c1 c2 hit2 hbw2 f3 hr
      go_wp2_with fail
      refine (HC.out.1 _).mono ?_
      rintro e w' ⟨rfl, hw⟩
      obtain rfl := hw
      go_wp2_with fail
      refine (HC.out.2.1 _).mono ?_
      rintro e w' ⟨rfl, hw⟩
      obtain rfl := hw.symm
      go_wp2_with fail
      refine ⟨⟨pos + 1, by go_num, HC.out.2.2.1, by omega, HC.out.2.2.2.1⟩, ?_⟩
      simp only [World.iterPos, HC.out.2.2.1, HC.out.2.2.2.2]
      omega
    · have hnx : ∀ ty, (Instr.next (.pointer (some ⟨w.heap.size, 0, none⟩)) true ty).run Tryz.prog wr = _ := fun ty => Lib.run_next_end_at wr w.heap.size T pos ty hit hp
      obtain rfl : pos = T.size := by omega
      have hcast : ((2 + T.size : Nat) : Int) = 2 + (T.size : Int) := by omega
      rw [hcast]
      have HB := Lib.hid hbw
      clear hit hbw hcast
      go_upto_region 27 with (at_make; refine wpList_make_own _ rfl _ _ 74 rfl w.heap.size 5 i0 (.int .u8 0) 1 Tryz.underlying74 HI.out.1 HI.out.2.1 HI.out.2.2.1 _ _ _ (2 + T.size) rfl rfl (by push_cast; rfl) (by rw [HI.out.2.2.2]; omega) (by unfold maxLen; omega) (by omega) ?_; intro w2 hown hgrow)
      have hbuf : Buf w.heap.size 5 (.slice (some ⟨wr.heap.size, 0, none⟩) 0 (2 + T.size)) [] w w2 := Buf.made hown hgrow HB.out (by omega)
      have HU := Lib.hid hbuf
      clear hown hgrow hbuf
      go_wp2_with (at_builtin; refine buf_byte rfl (.tmp 62) (.tmp 64) 74 rfl w.heap.size 5 i0 Tryz.underlying74 HI.out.1 HI.out.2.1 HI.out.2.2.1 HI.out.2.2.2 _ [] rfl w _ _ (34 : UInt8) rfl HU.out rfl (by simp) ?_; intro v3 w3 hb3)
      have HB3 := Lib.hid hb3
      clear hb3
      go_loopw [10, 11, 13, 14, 15] (fun s10 s11 _ _ _ wx => (s11 = .int .i64 0 ∧ Buf w.heap.size 5 s10 [34] w wx) ∨ (s11 = .int .i64 T.size ∧ Buf w.heap.size 5 s10 ([34] ++ T.data.toList) w wx)) (fun _ s11 _ _ _ _ => T.size - (intOf s11).toNat)
      case atStart => exact .inl ⟨rfl, HB3.out⟩
      case round =>
        rcases hrel with ⟨rfl, hb⟩ | ⟨rfl, hb⟩
        · have hTi : (0 : Int) < (T.size : Int) := by omega
          have HB4 := Lib.hid hb
          clear hb
          go_wp2_with fail
          refine (dec_any T h0 (by omega) (by have := (pb_facts (all_at HT.out 0 h0)).2.1; omega) _).mono ?_
          rintro e w' ⟨rfl, hw⟩
          obtain rfl := hw
          obtain ⟨f1, f2, f3⟩ := pb_facts (all_at HT.out 0 h0)
          obtain ⟨r, hr⟩ : ∃ r, T[0].toNat = r := ⟨_, rfl⟩
          simp only [hr] at f1 f2 f3 ⊢
          have HC := Lib.hid (canp_any (r : Int) (by omega) (by omega) f3)
          clear f3 hr
          go_wp2_with fail
          refine (HC.out _).mono ?_
          rintro e w' ⟨rfl, hw⟩
          obtain rfl := hw
          go_wp2_with fail
          go_loopw [11, 13, 14] (fun s11 _ _ wx => ∃ k : Nat, s11 = .int .i64 k ∧ 1 ≤ k ∧ k ≤ T.size ∧ wr = wx) (fun s11 _ _ _ => T.size - (intOf s11).toNat)
          case atStart => exact ⟨1, rfl, Nat.le_refl _, h0, rfl⟩
          case round =>
            obtain ⟨k, rfl, hk1, hk, rfl⟩ := hrel
            by_cases hlt : k < T.size
            · have hts : (T.extract k T.size).size = T.size - k := by rw [ByteArray.size_extract]; omega
              have hfa := tail_first T k hlt (by omega)
              obtain ⟨g1, g2, g3⟩ := pb_facts (all_at HT.out k hlt)
              have hd := dec_any (T.extract k T.size) (by omega) (by omega) (by rw [hfa]; omega)
              rw [hfa] at hd
              obtain ⟨r2, hr2⟩ : ∃ r, T[k].toNat = r := ⟨_, rfl⟩
              simp only [hr2] at g1 g2 g3 hd
              have HC2 := Lib.hid (And.intro hd (canp_any (r2 : Int) (by omega) (by omega) g3))
              clear g3 hr2 hd hfa
              go_wp2_with fail
              refine (HC2.out.1 _).mono ?_
              rintro e w' ⟨rfl, hw⟩
              obtain rfl := hw
              go_wp2_with fail
              refine (HC2.out.2 _).mono ?_
              rintro e w' ⟨rfl, hw⟩
              obtain rfl := hw
              go_wp2_with fail
              go_roundw
              case rel => exact ⟨k + 1, by go_num, by omega, by omega, by first | rfl | trivial⟩
              case measure => simp [intOf]; omega
            · obtain rfl : k = T.size := by omega
              have hex : T.extract 0 T.size = T := by simp
              go_wp2_with (at_builtin; refine buf_text rfl (.tmp 100) (.tmp 104) 74 9 rfl w.heap.size 5 i0 Tryz.underlying74 Tryz.underlying9 HI.out.1 HI.out.2.1 HI.out.2.2.1 HI.out.2.2.2 _ [34] rfl w HB4.out T (by first | rfl | simp) (by simp; omega) ?_; intro v5 w5 hb5)
              exact ⟨.inr ⟨rfl, hb5⟩, by simp [intOf]; omega⟩
        · have HB6 := Lib.hid hb
          have hle2 : ([34] ++ T.data.toList).length + 1 ≤ 140737488355328 := by rw [List.length_append, ← Lib.size_eq]; simp; omega
          clear hb
          go_wp2_with (at_builtin; refine buf_byte rfl (.tmp 227) (.tmp 229) 74 rfl w.heap.size 5 i0 Tryz.underlying74 HI.out.1 HI.out.2.1 HI.out.2.2.1 HI.out.2.2.2 _ ([34] ++ T.data.toList) rfl w _ _ (34 : UInt8) rfl HB6.out rfl hle2 ?_; intro v7 w7 hb7)
          go_ret
          exact ⟨v7, rfl, hb7⟩
set_option maxRecDepth 100000 in
theorem quote_any (T : ByteArray) (hT : AllC PbC T) (h0 : 0 < T.size) (hle : T.size ≤ 4194304) (w : World) : Calls Tryz.prog 37 #[.string T, .bool false] w (QuotePost T w) := by
  have H := Lib.hid (quote_mid T hT h0 hle w)
  clear hT
  go_enter Tryz.func37, Tryz.ntmps37
  go_wp2_with fail
  refine H.out.mono ?_
  rintro e w1 ⟨v, rfl, hb⟩
  have HB := Lib.hid hb
  clear hb
  go_wp2_with fail
  go_ret
  exact ⟨v, rfl, HB.out⟩
end Go.Proofs.YtglchiomdojjoaaGreatFmt
