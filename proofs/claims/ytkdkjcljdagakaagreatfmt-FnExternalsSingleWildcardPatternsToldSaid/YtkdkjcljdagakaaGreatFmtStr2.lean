/-
  The contracts of zzContainsRune at '*', of countStar, of IsPackagePath; conditions: those that each names.
-/
import Derived.Test.YtkdkjcljdagakaaGreatFmtFsm
import Derived.Test.YtkdkjcljdagakaaGreatFmtCan
import Derived.Lib.MapLaws
import Derived.Laws.RangeAny
import Derived.Lib.OthersKept
import Derived.Deep.LoopGhost
namespace Go.Proofs.YtkdkjcljdagakaaGreatFmt
open Go.RowKit

theorem dec_inner (s : ByteArray) (pos : Nat) (h : pos < s.size) (ha : 128 ≤ (s[pos]'h).toNat) : ∀ k, 0 < k → k < (Utf8.decode s pos).2 → (s.get! (pos + k)).toNat / 64 = 2 := by
  have hn : ¬ (s[pos]'h).toNat < 128 := by omega
  simp only [Utf8.decode, get_at s pos h, hn, if_false]
  repeat' split
  all_goals
    intro k h0 hk
    dsimp only at hk
    simp only [Bool.and_eq_true, decide_eq_true_eq, beq_iff_eq] at *
    have hk3 : k = 1 ∨ k = 2 ∨ k = 3 := by omega
    rcases hk3 with rfl | rfl | rfl <;> omega
theorem get_bang (s : ByteArray) (i : Nat) (h : i < s.size) : s.get! i = s[i] := by
  unfold ByteArray.get!
  exact getElem!_pos s.data i h
/-- Between a place and the next rune's no '*' stands, but at a byte that is '*' itself. -/
theorem no42_step (s : ByteArray) (pos : Nat) (h : pos < s.size) (hne : ((Utf8.decode s pos).1 : Int) ≠ 42) (hno : 42 ∉ s.data.toList.take pos) : 42 ∉ s.data.toList.take (pos + (Utf8.decode s pos).2) := by
  intro hm
  obtain ⟨i, hi, e⟩ := List.mem_take_iff_getElem.1 hm
  have hil : i < s.size := by rw [Lib.size_eq]; omega
  by_cases hip : i < pos
  · exact hno (List.mem_take_iff_getElem.2 ⟨i, by omega, e⟩)
  · have e2 : s[i] = 42 := e
    by_cases ha : (s[pos]'h).toNat < 128
    · rw [decode_ascii s pos h ha] at hi hne
      obtain rfl : i = pos := by simp at hi; omega
      rw [e2] at hne
      exact hne rfl
    · by_cases hip2 : i = pos
      · subst hip2
        rw [e2] at ha
        exact ha (by decide)
      · have hk := dec_inner s pos h (by omega) (i - pos) (by omega) (by omega)
        rw [show pos + (i - pos) = i by omega, get_bang s i hil, e2] at hk
        exact absurd hk (by decide)
theorem is42_step (s : ByteArray) (pos : Nat) (h : pos < s.size) (he : ((Utf8.decode s pos).1 : Int) = 42) : 42 ∈ s.data.toList := by
  by_cases ha : (s[pos]'h).toNat < 128
  · rw [decode_ascii s pos h ha] at he
    have e : s[pos] = 42 := UInt8.toNat_inj.1 (by show (s[pos]).toNat = 42; simp at he; omega)
    have := Lib.data_getElem? s pos h
    rw [e] at this
    exact List.mem_of_getElem? this
  · have := (decode_high s pos h (by omega)).1
    omega

set_option maxHeartbeats 2000000 in
theorem index42 (s : ByteArray) (w : World) : Calls Tryz.prog 63 #[.string s, .int .i32 42] w fun e w' => (∃ x : Int, e = .returned (.int .i64 x) ∧ (0 ≤ x ↔ 42 ∈ s.data.toList)) ∧ Below w.heap.size w w' := by
  go_enter Tryz.func63, Tryz.ntmps63
  go_wp2
  go_loopw [] (fun wr => ∃ pos : Nat, wr.heap[w.heap.size]? = some (.stringIter s pos) ∧ pos ≤ s.size ∧ 42 ∉ s.data.toList.take pos ∧ Below w.heap.size w wr) (fun wr => s.size - wr.iterPos w.heap.size)
  case atStart =>
    refine ⟨0, ?_, Nat.zero_le _, by simp, by unfold World.iter; exact (Below.refl _ _).alloc (Nat.le_refl _) _⟩
    have := World.iter_heap w s 0
    simpa using this
  case round =>
    obtain ⟨pos, hit, hps, hno, hbw⟩ := hrel
    have HN := Lib.hid (And.intro hno hbw)
    have hsz : w.heap.size < wr.heap.size := (Array.getElem?_eq_some_iff.1 hit).1
    clear hno
    by_cases hp : pos < s.size
    · have hnx : ∀ ty, (Instr.next (.pointer (some ⟨w.heap.size, 0, none⟩)) true ty).run Tryz.prog wr = _ := fun ty => Lib.run_next_any_at wr w.heap.size s pos ty hit hp
      have hwd : 1 ≤ (Utf8.decode s pos).2 := by
        by_cases ha : (s[pos]'hp).toNat < 128
        · rw [decode_ascii s pos hp ha]
          exact Nat.le_refl _
        · exact (decode_high s pos hp (by omega)).2
      have hd1 : (Utf8.decode s pos).2 ≤ s.size - pos := by
        have := Lib.decodeL_le (s.data.toList.drop pos) (by intro e; have := congrArg List.length e; rw [List.length_drop, ← Lib.size_eq] at this; simp at this; omega)
        rw [Lib.decodeL_drop, List.length_drop, ← Lib.size_eq] at this
        exact this
      have hit2 := Lib.iterAt_heap wr w.heap.size s pos (pos + (Utf8.decode s pos).2) hit
      have hbw2 := Lib.below_iterAt hbw (k := w.heap.size) (by omega) s (pos + (Utf8.decode s pos).2)
      have hS := fun h => no42_step s pos hp h HN.out.1
      have hY := is42_step s pos hp
      obtain ⟨r, hr⟩ : ∃ r, (Utf8.decode s pos).1 = r := ⟨_, rfl⟩
      obtain ⟨n, hn⟩ : ∃ n, (Utf8.decode s pos).2 = n := ⟨_, rfl⟩
      rw [hr, hn] at hnx
      rw [hr] at hS hY
      rw [hn] at hwd hd1 hit2 hbw2 hS
      have HX := Lib.hid (And.intro hS (And.intro hY (And.intro hbw2 (And.intro hit2 hd1))))
      clear hS hY hbw2 hr hn hd1
      cases q : ((r : Int) == 42)
      · go_wp2
        refine ⟨⟨pos + n, hit2, by have := HX.out.2.2.2.2; omega, HX.out.1 (by simpa using q), HX.out.2.2.1⟩, ?_⟩
        have := HX.out.2.2.2.2
        simp only [World.iterPos, hit2, hit]
        omega
      · go_wp2
        go_ret
        refine ⟨⟨pos, rfl, ?_⟩, HX.out.2.2.1⟩
        exact ⟨fun _ => HX.out.2.1 (by simpa using q), fun _ => by omega⟩
    · have hnx : ∀ ty, (Instr.next (.pointer (some ⟨w.heap.size, 0, none⟩)) true ty).run Tryz.prog wr = _ := fun ty => Lib.run_next_end_at wr w.heap.size s pos ty hit hp
      go_wp2
      go_ret
      obtain rfl : pos = s.size := by omega
      refine ⟨⟨-1, rfl, ⟨fun h => absurd h (by decide), fun h => ?_⟩⟩, hbw⟩
      have := HN.out.1
      rw [List.take_of_length_le (by rw [Lib.size_eq]; exact Nat.le_refl _)] at this
      exact absurd h this

def Tel (P : Prop) (w : World) (e : Ending) (w' : World) : Prop := ∃ b : Bool, e = .returned (.bool b) ∧ Below w.heap.size w w' ∧ (b = true ↔ P)
theorem contains42 (s : ByteArray) (w : World) : Calls Tryz.prog 41 #[.string s, .int .i32 42] w (Tel (42 ∈ s.data.toList) w) := by
  go_enter Tryz.func41, Tryz.ntmps41
  go_wp2_with fail
  refine (index42 s _).mono ?_
  rintro e w1 ⟨⟨x, rfl, hx⟩, hb⟩
  have HX := Lib.hid (And.intro hx hb)
  clear hx hb
  by_cases h0 : 0 ≤ x
  · go_wp2_with fail
    go_ret
    exact ⟨true, rfl, HX.out.2, ⟨fun _ => HX.out.1.1 h0, fun _ => rfl⟩⟩
  · go_wp2_with fail
    go_ret
    exact ⟨false, ret_bool (decide_eq_false (by omega)), HX.out.2, ⟨fun h => (by cases h), fun h => absurd (HX.out.1.2 h) (by omega)⟩⟩

theorem count_next {l : List UInt8} {k : Nat} {b : UInt8} (h : l[k]? = some b) (c : UInt8) : (l.take (k + 1)).count c = (l.take k).count c + (if b = c then 1 else 0) := by
  obtain ⟨hk, rfl⟩ := List.getElem?_eq_some_iff.1 h
  rw [List.take_succ_eq_append_getElem hk, List.count_append]
  congr 1
  by_cases e : l[k] = c
  · simp [e]
  · simp [e]
def stars (s : ByteArray) : Nat := s.data.toList.count 42
set_option maxHeartbeats 1000000 in
theorem countStar_any (s : ByteArray) (w : World) (hs : s.size ≤ 1048576) : Calls Tryz.prog 13 #[.string s] w fun e w' => e = .returned (.int .i64 (stars s : Nat)) ∧ w = w' := by
  go_enter Tryz.func13, Tryz.ntmps13
  go_wp2_with fail
  go_loop [3, 4] (fun s3 s4 => ∃ k : Nat, k ≤ s.size ∧ s4 = .int .i64 k ∧ s3 = .int .i64 ((s.data.toList.take k).count 42 : Nat)) (fun _ s4 => s.size - (intOf s4).toNat)
  case atStart => exact ⟨0, Nat.zero_le _, rfl, by simp⟩
  case round =>
    obtain ⟨k, hk, rfl, rfl⟩ := hrel
    by_cases hlt : k < s.size
    · have hnx := count_next (at_of hlt rfl) 42
      have hle : (s.data.toList.take k).count 42 ≤ k := Nat.le_trans List.count_le_length (by rw [List.length_take]; omega)
      obtain ⟨m, hm⟩ : ∃ m, (s.data.toList.take k).count 42 = m := ⟨_, rfl⟩
      rw [hm] at hnx hle ⊢
      cases e : ((s[k].toNat : Int) == 42)
      · rw [if_neg (notB 42 42 rfl e)] at hnx
        have HX := Lib.hid hnx
        clear hnx hm
        go_wp2_with fail
        go_round
        case rel => exact ⟨k + 1, by omega, by go_num, by rw [HX.out]; go_num⟩
        case measure => simp [intOf]; omega
      · rw [if_pos (isB 42 42 rfl e)] at hnx
        have HX := Lib.hid hnx
        clear hnx hm
        go_wp2_with fail
        go_round
        case rel => exact ⟨k + 1, by omega, by go_num, by rw [HX.out]; go_num⟩
        case measure => simp [intOf]; omega
    · have he : s.data.toList.take k = s.data.toList := List.take_of_length_le (by rw [← Lib.size_eq]; omega)
      rw [he]
      clear he
      obtain ⟨m, hm⟩ : ∃ m, s.data.toList.count 42 = m := ⟨_, rfl⟩
      rw [hm]
      have HM := Lib.hid hm
      clear hm
      go_wp2_with fail
      go_ret
      exact ⟨by unfold stars; rw [HM.out]; rfl, rfl⟩

set_option maxHeartbeats 1000000 in
theorem isPkg_any (s : ByteArray) (w : World) : Calls Tryz.prog 42 #[.string s] w fun e w' => (∃ b : Bool, e = .returned (.bool b)) ∧ w = w' := by
  have hp := fun t wx => Tryz.strings_HasPrefix s t wx
  have H := Lib.hid hp
  clear hp
  go_enter Tryz.func42, Tryz.ntmps42
  go_wp2_with fail
  refine (H.out ⟨#[47]⟩ _).mono ?_
  rintro e w' ⟨rfl, rfl⟩
  cases Lib.hasPrefix s.data.toList (⟨#[47]⟩ : ByteArray).data.toList
  · go_wp2_with fail
    refine (H.out ⟨#[46, 47]⟩ _).mono ?_
    rintro e w' ⟨rfl, rfl⟩
    cases Lib.hasPrefix s.data.toList (⟨#[46, 47]⟩ : ByteArray).data.toList
    · go_wp2_with fail
      refine (H.out ⟨#[46, 46, 47]⟩ _).mono ?_
      rintro e w' ⟨rfl, rfl⟩
      cases Lib.hasPrefix s.data.toList (⟨#[46, 46, 47]⟩ : ByteArray).data.toList
      · cases q1 : (s.toList == [46])
        · cases q2 : (s.toList == [46, 46])
          · go_wp2_with fail
            go_ret
            exact ⟨⟨_, rfl⟩, rfl⟩
          · go_wp2_with fail
            go_ret
            exact ⟨⟨_, rfl⟩, rfl⟩
        · go_wp2_with fail
          go_ret
          exact ⟨⟨_, rfl⟩, rfl⟩
      · go_wp2_with fail
        go_ret
        exact ⟨⟨_, rfl⟩, rfl⟩
    · go_wp2_with fail
      go_ret
      exact ⟨⟨_, rfl⟩, rfl⟩
  · go_wp2_with fail
    go_ret
    exact ⟨⟨_, rfl⟩, rfl⟩
end Go.Proofs.YtkdkjcljdagakaaGreatFmt
