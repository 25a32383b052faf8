/-
  The contracts of the exported road to printIndentedComment and of the small functions of the laws; conditions: what the listed tables hold, the sizes that each names.
-/
import Derived.Test.YtalnapcphdmjaaaDoorNew
namespace Go.Proofs.YtalnapcphdmjaaaDoor
open Go.RowKit

def ZEnd (B : Nat) (l : List UInt8) (w : World) (e : Ending) (w' : World) : Prop := ∃ a len cap, e = .returned (.slice a len cap) ∧ w'.ownsRow B 5 1 (.slice a len cap) (Lib.byteCells l).length (Lib.byteCells l) ∧ Below B w w'

theorem Prn.css {B g : Nat} {mini : Bool} {lim feat : Int} {l : List UInt8} {w : World} (h : Prn B g mini lim feat l w) : ∃ a len cap, w.cell? ⟨g, 15, none⟩ = some (.slice a len cap) ∧ w.ownsRow B 5 1 (.slice a len cap) (Lib.byteCells l).length (Lib.byteCells l) := by
  obtain ⟨cs, v, hB, hg, hs, h3, h5, h6, h15, hown⟩ := h
  obtain ⟨ao, n', cap, rfl⟩ : ∃ ao n' cap, v = .slice ao n' cap := by
    rcases hown.2 with ⟨e, _⟩ | ⟨g, cap, cur, e, _⟩ <;> exact ⟨_, _, _, e⟩
  exact ⟨ao, n', cap, (Lib.cell_of_heap hg 15).trans h15, hown⟩

set_option maxHeartbeats 1000000 in
set_option maxRecDepth 100000 in
theorem zz_styled (B : Nat) (mini : Bool) (lim : Int) (l : List UInt8) (v : Value) (n : Int) (text : ByteArray) (w : World) (hT : Tabs w) (hn0 : -2147483648 ≤ n) (hn : n ≤ 65536) (hlim : -9223372036854775808 ≤ lim ∧ lim ≤ 9223372036854775807) (hown : w.ownsRow B 5 1 v (Lib.byteCells l).length (Lib.byteCells l)) (hBw : B ≤ w.heap.size) (hts : text.size ≤ 4194304)
    (hbd : l.length + ((esc styleTag text.data.toList).length + newlines text.data.toList * (2 * (if mini then 0 else lv n lim))) ≤ 1000000000) :
    Calls Tryd.prog 9 #[.bool mini, .int .i64 lim, .bool false, v, .int .i32 n, .string text] w (ZEnd B (l ++ cmt mini n lim (esc styleTag text.data.toList)) w) := by
  have H := Lib.hid (And.intro hT (And.intro hown hbd))
  clear hT hown hbd
  go_enter Tryd.func9, Tryd.ntmps9
  go_wp2_with fail
  refine (new_any B mini false lim l v _ H.out.2.1 hBw).mono ?_
  rintro e w1 ⟨rfl, hp, hb1, hb0⟩
  have hsz := hb1.size
  have hT1 : Tabs w1 := H.out.1.up hb0
  go_wp2_with fail
  refine (cmt_styled B w.heap.size mini lim l n text _ hT1 hn0 hn hlim hp (by omega) hts H.out.2.2).mono ?_
  rintro e w2 ⟨rfl, hp2, hb2⟩
  obtain ⟨a, len, cap, hc, ho⟩ := hp2.css
  go_wp2_with fail
  go_ret
  exact ⟨a, len, cap, rfl, ho, hb1.trans hb2⟩


set_option maxHeartbeats 1000000 in
set_option maxRecDepth 100000 in
theorem zz_plain (B : Nat) (mini : Bool) (lim : Int) (l : List UInt8) (v : Value) (n : Int) (text : ByteArray) (w : World) (hn0 : -2147483648 ≤ n) (hn : n ≤ 65536) (hlim : -9223372036854775808 ≤ lim ∧ lim ≤ 9223372036854775807) (hown : w.ownsRow B 5 1 v (Lib.byteCells l).length (Lib.byteCells l)) (hBw : B ≤ w.heap.size)
    (hbd : l.length + (text.size + newlines text.data.toList * (2 * (if mini then 0 else lv n lim))) ≤ 1000000000) :
    Calls Tryd.prog 9 #[.bool mini, .int .i64 lim, .bool true, v, .int .i32 n, .string text] w (ZEnd B (l ++ cmt mini n lim text.data.toList) w) := by
  have H := Lib.hid (And.intro hown hbd)
  clear hown hbd
  go_enter Tryd.func9, Tryd.ntmps9
  go_wp2_with fail
  refine (new_any B mini true lim l v _ H.out.1 hBw).mono ?_
  rintro e w1 ⟨rfl, hp, hb1, hb0⟩
  have hsz := hb1.size
  go_wp2_with fail
  refine (cmt_plain B w.heap.size mini lim l n text _ hn0 hn hlim hp (by omega) H.out.2).mono ?_
  rintro e w2 ⟨rfl, hp2, hb2⟩
  obtain ⟨a, len, cap, hc, ho⟩ := hp2.css
  go_wp2_with fail
  go_ret
  exact ⟨a, len, cap, rfl, ho, hb1.trans hb2⟩

set_option maxHeartbeats 1000000 in
theorem levels_any (n lim : Int) (w : World) (hn0 : -2147483648 ≤ n) (hn : n ≤ 65536) (hlim : -9223372036854775808 ≤ lim ∧ lim ≤ 9223372036854775807) :
    Calls Tryd.prog 6 #[.int .i32 n, .int .i64 lim] w fun e w' => e = .returned (.int .i64 (lv n lim)) ∧ w = w' := by
  by_cases h0 : n < 0
  · by_cases h1 : 0 < lim
    · have hl : lv n lim = 0 := by unfold lv; rw [if_neg (by omega)]; omega
      rw [hl]
      have h2 : ¬ lim ≤ 0 := by omega
      go_enter Tryd.func6, Tryd.ntmps6
      go_wp2
      go_ret
      exact ⟨rfl, rfl⟩
    · have hl : lv n lim = 0 := by unfold lv; rw [if_neg (by omega)]; omega
      rw [hl]
      go_enter Tryd.func6, Tryd.ntmps6
      go_wp2
      go_ret
      exact ⟨rfl, rfl⟩
  · obtain ⟨m, rfl⟩ : ∃ m : Nat, n = (m : Int) := ⟨n.toNat, by omega⟩
    by_cases h1 : 0 < lim
    · by_cases h2 : lim ≤ 2 * (m : Int)
      · have hq : lim.tdiv 2 = lim / 2 := Int.tdiv_eq_ediv_of_nonneg (by omega)
        have hl : ((lv m lim : Nat) : Int) = lim / 2 := by unfold lv; rw [if_pos ⟨h1, by omega⟩, hq]; omega
        rw [hl]
        go_enter Tryd.func6, Tryd.ntmps6
        go_wp2
        go_ret
        exact ⟨rfl, rfl⟩
      · have hl : lv m lim = m := by unfold lv; rw [if_neg (by omega)]; omega
        rw [hl]
        go_enter Tryd.func6, Tryd.ntmps6
        go_wp2
        go_ret
        exact ⟨rfl, rfl⟩
    · have hl : lv m lim = m := by unfold lv; rw [if_neg (by omega)]; omega
      rw [hl]
      go_enter Tryd.func6, Tryd.ntmps6
      go_wp2
      go_ret
      exact ⟨rfl, rfl⟩

set_option maxHeartbeats 400000 in
theorem count_any (s : ByteArray) (w : World) (hs : s.size ≤ 1099511627776) :
    Calls Tryd.prog 7 #[.string s] w fun e w' => e = .returned (.int .i64 (newlines s.data.toList)) ∧ w = w' := by
  have hle : ∀ l : List UInt8, newlines l ≤ l.length := by
    intro l
    induction l with
    | nil => exact Nat.le_refl _
    | cons c r ih => rw [newlines_cons, List.length_cons]; split <;> omega
  go_enter Tryd.func7, Tryd.ntmps7
  go_wp2
  go_loop [3, 4] (fun c i => ∃ k : Nat, k ≤ s.size ∧ i = .int .i64 k ∧ c = .int .i64 (newlines (s.data.toList.take k))) (fun _ i => s.size - (intOf i).toNat)
  case atStart => exact ⟨0, Nat.zero_le _, rfl, rfl⟩
  case round =>
    obtain ⟨k, hk, rfl, rfl⟩ := hrel
    have hb : newlines (s.data.toList.take k) ≤ k := Nat.le_trans (hle _) (by rw [List.length_take]; omega)
    by_cases hlt : k < s.size
    · have hst := newlines_take s.data.toList k (by rw [← Lib.size_eq]; exact hlt)
      rw [show s.data.toList[k] = s[k] from rfl] at hst
      have HST := Lib.hid hst
      clear hst hle
      cases h10 : ((s[k].toNat : Int) == 10)
      · go_wp2
        have hne : s[k] ≠ 10 := fun e => by rw [e] at h10; exact absurd h10 (by decide)
        exact ⟨⟨k + 1, by omega, by go_num, by rw [HST.out, if_neg hne]; rfl⟩, by simp [intOf]; omega⟩
      · go_wp2
        have he : s[k] = 10 := UInt8.toNat_inj.1 (by rw [beq_iff_eq] at h10; show _ = 10; omega)
        exact ⟨⟨k + 1, by omega, by go_num, by rw [HST.out, if_pos he]; go_num⟩, by simp [intOf]; omega⟩
    · go_wp2
      go_ret
      refine ⟨?_, rfl⟩
      rw [List.take_of_length_le (by rw [← Lib.size_eq]; omega)]
      rfl

end Go.Proofs.YtalnapcphdmjaaaDoor
