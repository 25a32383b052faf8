/-
  The contracts of the size and domain guards, and of the joining by slashes; conditions: those that each names.
-/
import Derived.Test.YtckkpbeiigapeaaDoorPth
import Derived.Test.YtckkpbeiigapeaaDoorIdx
import Derived.Test.YtckkpbeiigapeaaDoorRepl
import Derived.Test.YtckkpbeiigapeaaDoorRowIn
import Derived.Test.YtckkpbeiigapeaaDoorRows
import Derived.WalkSpells
import Derived.OpenShut
import Derived.Deep.DeepCutAuto
import Derived.Deep.CutBlock
import Derived.Lib.IndexBytes
import Derived.WalkLawsBesides
namespace Go.Proofs.YtckkpbeiigapeaaDoor
open Go.RowKit

theorem InRow.get {α : Type} {con : α → Value} {w : World} {a : Option Addr} {len cap : Nat} {xs : List α} (h : InRow w a len cap (xs.map con)) {i : Nat} (hi : i < len) : ∃ x u, a = some x ∧ xs[i]? = some u ∧ w.cell? (x.add i) = some (con u) := by
  obtain ⟨x, h1, h2⟩ := h.at hi
  have hl := h.len
  rw [List.length_map] at hl
  refine ⟨x, xs[i], h1, List.getElem?_eq_getElem (by omega), ?_⟩
  rw [h2, List.getElem?_map, List.getElem?_eq_getElem (by omega)]
  rfl

/-- A guard's answer. -/
def Ans (P : Prop) (w : World) (e : Ending) (w' : World) : Prop := ∃ b : Bool, e = .returned (.bool b) ∧ w = w' ∧ (b = true → P)
/-- All their bytes. -/
def tot (ss : List ByteArray) : Nat := (ss.map ByteArray.size).sum
theorem tot_next {ss : List ByteArray} {k : Nat} {s : ByteArray} (h : ss[k]? = some s) : tot (ss.take (k + 1)) = tot (ss.take k) + s.size := by
  obtain ⟨hk, rfl⟩ := List.getElem?_eq_some_iff.1 h
  unfold tot
  rw [List.take_succ_eq_append_getElem hk, List.map_append, List.sum_append]
  simp
theorem tot_all {ss : List ByteArray} {k : Nat} (h : ss.length ≤ k) : tot (ss.take k) = tot ss := by rw [List.take_of_length_le h]
theorem tot_take_le (ss : List ByteArray) (k : Nat) : tot (ss.take k) ≤ tot ss := by
  unfold tot
  conv => rhs; rw [← List.take_append_drop k ss]
  rw [List.map_append, List.sum_append]
  omega
theorem tot_mem {ss : List ByteArray} {s : ByteArray} (h : s ∈ ss) : s.size ≤ tot ss := by
  unfold tot
  induction ss with
  | nil => cases h
  | cons x r ih =>
    rw [List.map_cons, List.sum_cons]
    rcases List.mem_cons.1 h with rfl | h
    · omega
    · have := ih h
      omega

def TotRel (ss : List ByteArray) (len base : Nat) (s7 s8 : Value) : Prop := ∃ k : Nat, k ≤ len ∧ s8 = .int .i64 k ∧ s7 = .int .i64 (base + tot (ss.take k) : Nat) ∧ base + tot (ss.take k) ≤ 1048576

set_option maxHeartbeats 1000000 in
theorem bytesA_any (a0 : Option Addr) (l0 c0 : Nat) (ss : List ByteArray) (p : ByteArray) (w : World) (h0 : InRow w a0 l0 c0 (ss.map Value.string)) (hs : ∀ s ∈ ss, s.size ≤ maxLen) (hp : p.size ≤ maxLen) :
    Calls Tryd.prog 5 #[.slice a0 l0 c0, .string p] w (Ans (l0 + tot ss + p.size ≤ 1048576) w) := by
  have hcap := h0.cap
  have hlen := h0.len
  rw [List.length_map] at hlen
  have H0 := Lib.hid h0
  have HS := Lib.hid hs
  have HL := Lib.hid hlen
  clear h0 hs hlen
  unfold maxLen at hp hcap
  obtain ⟨hc1, hc2⟩ := hcap
  go_enter Tryd.func5, Tryd.ntmps5
  go_wp2_with fail
  all_goals first
    | (go_ret; exact ⟨_, rfl, rfl, fun h => by cases h⟩)
    | skip
  go_loop [5, 6] (fun s7 s8 => TotRel ss l0 l0 s7 s8) (fun _ s8 => l0 - (intOf s8).toNat)
  case atStart => exact ⟨0, Nat.zero_le _, rfl, by simp [tot], by simp [tot]; omega⟩
  case round =>
    obtain ⟨k, hk, rfl, rfl, hn⟩ := hrel
    by_cases hlt : k < l0
    · obtain ⟨x, s, rfl, hsk, hc⟩ := H0.out.get hlt
      have hsz := HS.out s (List.mem_of_getElem? hsk)
      unfold maxLen at hsz
      have hnx := tot_next hsk
      obtain ⟨m, hm⟩ : ∃ m, tot (ss.take k) = m := ⟨_, rfl⟩
      rw [hm] at hn hnx ⊢
      have HX := Lib.hid hnx
      clear hnx hm hsk
      go_wp2_with fail
      all_goals first
        | (go_ret; exact ⟨_, rfl, rfl, fun h => by cases h⟩)
        | skip
      go_round
      case rel => exact ⟨k + 1, by omega, by go_num, by rw [HX.out]; go_num, by rw [HX.out]; omega⟩
      case measure => simp [intOf]; omega
    · have he := tot_all (ss := ss) (k := k) (by have := HL.out; omega)
      rw [he] at hn ⊢
      obtain ⟨m, hm⟩ : ∃ m, tot ss = m := ⟨_, rfl⟩
      rw [hm] at hn ⊢
      have HM := Lib.hid hm
      clear he hm
      go_wp2_with fail
      all_goals
        go_ret
        exact ⟨_, rfl, rfl, fun h => by first | exact absurd h (by decide) | (have := HM.out; omega)⟩

set_option maxHeartbeats 1000000 in
theorem strsBytes_any (a0 : Option Addr) (l0 c0 : Nat) (ss : List ByteArray) (w : World) (h0 : InRow w a0 l0 c0 (ss.map Value.string)) (hs : l0 + tot ss ≤ 1048576) :
    Calls Tryd.prog 6 #[.slice a0 l0 c0] w fun e w' => e = .returned (.int .i64 (16 * l0 + tot ss : Nat)) ∧ w = w' := by
  have hlen := h0.len
  rw [List.length_map] at hlen
  have H0 := Lib.hid h0
  have HL := Lib.hid hlen
  have HS := Lib.hid hs
  have hl1 : l0 ≤ 1048576 := by omega
  clear h0 hs hlen
  go_enter Tryd.func6, Tryd.ntmps6
  go_wp2_with fail
  go_loop [3, 4] (fun s7 s8 => ∃ k : Nat, k ≤ l0 ∧ s8 = .int .i64 k ∧ s7 = .int .i64 (16 * k + tot (ss.take k) : Nat)) (fun _ s8 => l0 - (intOf s8).toNat)
  case atStart => exact ⟨0, Nat.zero_le _, rfl, by simp [tot]⟩
  case round =>
    obtain ⟨k, hk, rfl, rfl⟩ := hrel
    by_cases hlt : k < l0
    · obtain ⟨x, s, rfl, hsk, hc⟩ := H0.out.get hlt
      have hnx := tot_next hsk
      have hle := tot_take_le ss (k + 1)
      have hle2 := HS.out
      rw [hnx] at hle
      obtain ⟨m, hm⟩ : ∃ m, tot (ss.take k) = m := ⟨_, rfl⟩
      rw [hm] at hle hnx ⊢
      have hms : m + s.size ≤ 1048576 := by omega
      have HX := Lib.hid hnx
      clear hnx hm hsk hle hle2
      go_wp2_with fail
      go_round
      case rel => exact ⟨k + 1, by omega, by go_num, by rw [HX.out]; go_num⟩
      case measure => simp [intOf]; omega
    · have he := tot_all (ss := ss) (k := k) (by have := HL.out; omega)
      obtain rfl : k = l0 := by omega
      rw [he]
      clear he
      go_wp2_with fail
      go_ret
      exact ⟨rfl, rfl⟩

/-! ### Valid segments -/
theorem byte47 {c : UInt8} (h : ((c.toNat : Int) == 47) = false) : c ≠ 47 := by
  rintro rfl
  exact absurd h (by decide)
theorem byte92 {c : UInt8} (h : ((c.toNat : Int) == 92) = false) : c ≠ 92 := by
  rintro rfl
  exact absurd h (by decide)
def Free (l : Bs) (k : Nat) : Prop := ∀ i c, i < k → l[i]? = some c → c ≠ 47 ∧ c ≠ 92
theorem Free.all {l : Bs} {k : Nat} (h : Free l k) (hk : l.length ≤ k) : 47 ∉ l ∧ 92 ∉ l := by
  constructor
  · intro hm
    obtain ⟨i, hi⟩ := List.getElem?_of_mem hm
    exact (h i _ (by have := (List.getElem?_eq_some_iff.1 hi).1; omega) hi).1 rfl
  · intro hm
    obtain ⟨i, hi⟩ := List.getElem?_of_mem hm
    exact (h i _ (by have := (List.getElem?_eq_some_iff.1 hi).1; omega) hi).2 rfl
theorem Free.next {s : ByteArray} {k : Nat} (h : Free s.data.toList k) (hk : k < s.size) (h1 : ((s[k].toNat : Int) == 47) = false) (h2 : ((s[k].toNat : Int) == 92) = false) : Free s.data.toList (k + 1) := by
  intro i c hi hc
  by_cases e : i = k
  · subst e
    rw [Lib.data_getElem? s i hk] at hc
    cases hc
    exact ⟨byte47 h1, byte92 h2⟩
  · exact h i c (by omega) hc

theorem seg_ne {s : ByteArray} (h0 : s.toList.isEmpty = false) (h1 : (s.toList == [46]) = false) (h2 : (s.toList == [46, 46]) = false) : s.data.toList ≠ [] ∧ s.data.toList ≠ [46] ∧ s.data.toList ≠ [46, 46] := by
  rw [← Lib.toList_data s]
  refine ⟨?_, beq_eq_false_iff_ne.1 h1, beq_eq_false_iff_ne.1 h2⟩
  intro e
  rw [e] at h0
  cases h0

set_option maxHeartbeats 1000000 in
theorem validSeg_any (s : ByteArray) (w : World) (hs : s.size ≤ maxLen) : Calls Tryd.prog 11 #[.string s] w (Ans (Seg s.data.toList) w) := by
  unfold maxLen at hs
  cases h0 : s.toList.isEmpty
  · cases h1 : (s.toList == [46])
    · cases h2 : (s.toList == [46, 46])
      · have HN := Lib.hid (seg_ne h0 h1 h2)
        go_enter Tryd.func11, Tryd.ntmps11
        go_wp2_with fail
        go_loop [3] (fun i => ∃ k : Nat, k ≤ s.size ∧ i = .int .i64 k ∧ Free s.data.toList k) (fun i => s.size - (intOf i).toNat)
        case atStart => exact ⟨0, Nat.zero_le _, rfl, fun i c hi => by omega⟩
        case round =>
          obtain ⟨k, hk, rfl, hf⟩ := hrel
          have HF := Lib.hid hf
          clear hf
          by_cases hlt : k < s.size
          · cases q1 : ((s[k].toNat : Int) == 47)
            · cases q2 : ((s[k].toNat : Int) == 92)
              · have HX := Lib.hid (HF.out.next hlt q1 q2)
                go_wp2_with fail
                go_round
                case rel => exact ⟨k + 1, by omega, by go_num, HX.out⟩
                case measure => simp [intOf]; omega
              · go_wp2_with fail
                go_ret
                exact ⟨_, rfl, rfl, fun h => by cases h⟩
            · go_wp2_with fail
              go_ret
              exact ⟨_, rfl, rfl, fun h => by cases h⟩
          · have hfr := HF.out.all (by rw [← Lib.size_eq]; omega)
            have HX := Lib.hid hfr
            clear hfr
            go_wp2_with fail
            go_ret
            exact ⟨_, rfl, rfl, fun _ => ⟨HN.out.1, HN.out.2.1, HN.out.2.2, HX.out.1, HX.out.2⟩⟩
      · go_enter Tryd.func11, Tryd.ntmps11
        go_wp2_with fail
        go_ret
        exact ⟨_, rfl, rfl, fun h => by cases h⟩
    · go_enter Tryd.func11, Tryd.ntmps11
      go_wp2_with fail
      go_ret
      exact ⟨_, rfl, rfl, fun h => by cases h⟩
  · go_enter Tryd.func11, Tryd.ntmps11
    go_wp2_with fail
    go_ret
    exact ⟨_, rfl, rfl, fun h => by cases h⟩

def SegsTo (ss : List ByteArray) (k : Nat) : Prop := ∀ i s, i < k → ss[i]? = some s → Seg s.data.toList
theorem SegsTo.next {ss : List ByteArray} {k : Nat} (h : SegsTo ss k) {s : ByteArray} (hs : ss[k]? = some s) (hz : Seg s.data.toList) : SegsTo ss (k + 1) := by
  intro i t hi ht
  by_cases e : i = k
  · subst e
    rw [hs] at ht
    injection ht with ht
    subst ht
    exact hz
  · exact h i t (by omega) ht
def Ls (ss : List ByteArray) : List Bs := ss.map fun s => s.data.toList
def Segs (l : List Bs) : Prop := ∀ x ∈ l, Seg x
theorem SegsTo.all {ss : List ByteArray} {k : Nat} (h : SegsTo ss k) (hk : ss.length ≤ k) : Segs (Ls ss) := by
  intro x hx
  obtain ⟨s, hs, rfl⟩ := List.mem_map.1 hx
  obtain ⟨i, hi⟩ := List.getElem?_of_mem hs
  exact h i s (by have := (List.getElem?_eq_some_iff.1 hi).1; omega) hi

set_option maxHeartbeats 1000000 in
theorem allValid_any (a0 : Option Addr) (l0 c0 : Nat) (ss : List ByteArray) (w : World) (h0 : InRow w a0 l0 c0 (ss.map Value.string)) (hs : ∀ s ∈ ss, s.size ≤ maxLen) (hl : l0 ≤ 1048576) :
    Calls Tryd.prog 7 #[.slice a0 l0 c0] w (Ans (Segs (Ls ss)) w) := by
  have hlen := h0.len
  rw [List.length_map] at hlen
  have H0 := Lib.hid h0
  have HL := Lib.hid hlen
  have HS := Lib.hid hs
  clear h0 hs hlen
  go_enter Tryd.func7, Tryd.ntmps7
  go_wp2_with fail
  go_loop [3] (fun s8 => ∃ k : Nat, k ≤ l0 ∧ s8 = .int .i64 k ∧ SegsTo ss k) (fun s8 => l0 - (intOf s8).toNat)
  case atStart => exact ⟨0, Nat.zero_le _, rfl, fun i s hi => by omega⟩
  case round =>
    obtain ⟨k, hk, rfl, hst⟩ := hrel
    have HT := Lib.hid hst
    clear hst
    by_cases hlt : k < l0
    · obtain ⟨x, s, rfl, hsk, hc⟩ := H0.out.get hlt
      have HK := Lib.hid hsk
      clear hsk
      go_wp2_with fail
      refine (validSeg_any s _ (HS.out s (List.mem_of_getElem? HK.out))).mono ?_
      rintro e w' ⟨b, rfl, rfl, hb⟩
      cases b
      · clear hb
        go_wp2_with fail
        go_ret
        exact ⟨_, rfl, rfl, fun h => by cases h⟩
      · have HX := Lib.hid (HT.out.next HK.out (hb rfl))
        clear hb
        go_wp2_with fail
        go_round
        case rel => exact ⟨k + 1, by omega, by go_num, HX.out⟩
        case measure => simp [intOf]; omega
    · have hfr := HT.out.all (by have := HL.out; omega)
      have HX := Lib.hid hfr
      clear hfr
      go_wp2_with fail
      go_ret
      exact ⟨_, rfl, rfl, fun _ => HX.out⟩

/-! ### Joining by slashes -/
theorem J_grow {ss : List ByteArray} {k : Nat} {s : ByteArray} (h : ss[k]? = some s) : J (Ls (ss.take (k + 1))) = J (Ls (ss.take k)) ++ ((if k = 0 then [] else [47]) ++ s.data.toList) := by
  obtain ⟨hk, rfl⟩ := List.getElem?_eq_some_iff.1 h
  rw [List.take_succ_eq_append_getElem hk]
  unfold Ls
  rw [List.map_append]
  by_cases e : k = 0
  · subst e
    simp [J]
  · rw [if_neg e, List.map_cons, List.map_nil, J_snoc _ _ (by
      intro h0
      have := congrArg List.length h0
      rw [List.length_map, List.length_take] at this
      rw [List.length_nil] at this
      omega)]
    rfl
theorem J_len_tot : ∀ ss : List ByteArray, (J (Ls ss)).length ≤ ss.length + tot ss
  | [] => by simp [Ls, J]
  | [s] => by
    show (J [s.data.toList]).length ≤ 1 + tot [s]
    rw [J_one, ← Lib.size_eq]
    simp [tot]
  | s :: t :: r => by
    have ih := J_len_tot (t :: r)
    have e : J (Ls (s :: t :: r)) = s.data.toList ++ 47 :: J (Ls (t :: r)) := J_two _ _ _
    rw [e]
    have e2 : tot (s :: t :: r) = s.size + tot (t :: r) := by simp [tot]
    rw [e2, List.length_append, List.length_cons, ← Lib.size_eq]
    simp at ih ⊢
    omega

set_option maxHeartbeats 2000000 in
set_option maxRecDepth 100000 in
theorem join_any (a0 : Option Addr) (l0 c0 : Nat) (ss : List ByteArray) (w : World) (h0 : InRow w a0 l0 c0 (ss.map Value.string)) (hs : l0 + tot ss ≤ 4194304) :
    Calls Tryd.prog 9 #[.slice a0 l0 c0] w fun e w' => e = .returned (.string (S (J (Ls ss)))) ∧ Below w.heap.size w w' := by
  have hlen := h0.len
  rw [List.length_map] at hlen
  have H0 := Lib.hid h0
  have HL := Lib.hid hlen
  have HS := Lib.hid hs
  have hl1 : l0 ≤ 4194304 := by omega
  clear h0 hs hlen
  obtain ⟨i0, hi0, hz0, hz1, hz2⟩ := info_parts infoU8
  have HI := Lib.hid (And.intro hi0 (And.intro hz0 (And.intro hz1 hz2)))
  clear hi0 hz0 hz1 hz2
  go_enter Tryd.func9, Tryd.ntmps9
  go_wp2_with fail
  go_loopw [3, 4] (fun v i wr => ∃ k : Nat, k ≤ l0 ∧ i = .int .i64 k ∧ Buf w.heap.size 5 v (J (Ls (ss.take k))) w wr) (fun _ i _ => l0 - (intOf i).toNat)
  case atStart => exact ⟨0, Nat.zero_le _, rfl, by simpa [Ls, J] using Buf.nil 5 w⟩
  case round =>
    obtain ⟨k, hk, rfl, hb⟩ := hrel
    by_cases hlt : k < l0
    · obtain ⟨x, s, rfl, hsk, hcw⟩ := H0.out.get hlt
      have hc := (hb.below.cell (World.block_lt_of_cell? w _ hcw)).trans hcw
      have HU := Lib.hid hcw
      clear hcw
      have hj := J_grow hsk
      have hlj : (J (Ls (ss.take k))).length + 1 + s.size ≤ 8388608 := by
        have h1 := J_len_tot (ss.take k)
        have h2 := tot_take_le ss (k + 1)
        rw [tot_next hsk] at h2
        have h3 := HS.out
        rw [List.length_take] at h1
        omega
      obtain ⟨m, hm⟩ : ∃ m, J (Ls (ss.take k)) = m := ⟨_, rfl⟩
      rw [hm] at hb hlj hj
      have HJ := Lib.hid hj
      clear hj hm hsk
      by_cases hk0 : k = 0
      · subst hk0
        have hc0 : wr.cell? x = some (.string s) := by rw [Addr.add_zero'] at hc; exact hc
        go_wp2_with (at_builtin; refine buf_text rfl _ _ 35 9 rfl w.heap.size 5 i0 Tryd.underlying35 Tryd.underlying9 HI.out.1 HI.out.2.1 HI.out.2.2.1 HI.out.2.2.2 _ m rfl w hb s rfl (by omega) ?_; intro v' w' hb')
        exact ⟨⟨1, by omega, by go_num, by rw [HJ.out]; exact hb'⟩, by simp [intOf]; omega⟩
      · have hk1 : ¬ (k : Int) ≤ 0 := by omega
        go_wp2_with (first | (at_builtin; refine buf_byte rfl (.tmp 13) (.tmp 14) 35 rfl w.heap.size 5 i0 Tryd.underlying35 HI.out.1 HI.out.2.1 HI.out.2.2.1 HI.out.2.2.2 _ m rfl w _ _ (47 : UInt8) rfl hb rfl (by omega) ?_; intro v1 w1 hb1; clear hb; have hc1 := (hb1.below.cell (World.block_lt_of_cell? w _ HU.out)).trans HU.out) | (at_builtin; refine buf_text rfl _ _ 35 9 rfl w.heap.size 5 i0 Tryd.underlying35 Tryd.underlying9 HI.out.1 HI.out.2.1 HI.out.2.2.1 HI.out.2.2.2 _ _ rfl w hb1 s rfl (by simp; omega) ?_; intro v' w' hb'))
        exact ⟨⟨k + 1, by omega, by go_num, by rw [HJ.out, if_neg hk0]; simpa using hb'⟩, by simp [intOf]; omega⟩
    · have he : ss.take k = ss := List.take_of_length_le (by have := HL.out; omega)
      rw [he] at hb
      have hcv := hb.convert (P := Tryd.prog) 35 9 Tryd.underlying35 Tryd.underlying5 Tryd.underlying9
      go_wp2_with fail
      go_ret
      exact ⟨rfl, hb.below⟩
end Go.Proofs.YtckkpbeiigapeaaDoor
