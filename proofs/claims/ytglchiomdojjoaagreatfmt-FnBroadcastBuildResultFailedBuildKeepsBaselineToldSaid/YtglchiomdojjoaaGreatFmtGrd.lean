/-
  The contracts of the size guards, of the strings' bytes, of cloning and of the tests of a text; conditions: those that each names.
-/
import Derived.Test.YtglchiomdojjoaaGreatFmtRow
import Derived.Test.YtglchiomdojjoaaGreatFmtRowIn
import Derived.Test.YtglchiomdojjoaaGreatFmtStr
import Derived.Test.YtglchiomdojjoaaGreatFmtRows
import Derived.WalkSpells
import Derived.OpenShut
import Derived.Deep.DeepCutAuto
import Derived.Deep.CutBlock
import Derived.WalkLawsBesides
import Derived.BigQuiet
namespace Go.Proofs.YtglchiomdojjoaaGreatFmt
open Go.RowKit

theorem InRow.get {α : Type} {con : α → Value} {w : World} {a : Option Addr} {len cap : Nat} {xs : List α} (h : InRow w a len cap (xs.map con)) {i : Nat} (hi : i < len) : ∃ x u, a = some x ∧ xs[i]? = some u ∧ w.cell? (x.add i) = some (con u) := by
  obtain ⟨x, h1, h2⟩ := h.at hi
  have hl := h.len
  rw [List.length_map] at hl
  refine ⟨x, xs[i], h1, List.getElem?_eq_getElem (by omega), ?_⟩
  rw [h2, List.getElem?_map, List.getElem?_eq_getElem (by omega)]
  rfl

/-- A guard's answer. -/
def Ans (P : Prop) (w : World) (e : Ending) (w' : World) : Prop := ∃ b : Bool, e = .returned (.bool b) ∧ w = w' ∧ (b = true → P)
/-- All their bytes. -/
def tot (ss : List ByteArray) : Nat := (ss.map ByteArray.size).sum
theorem tot_next {ss : List ByteArray} {k : Nat} {s : ByteArray} (h : ss[k]? = some s) : tot (ss.take (k + 1)) = tot (ss.take k) + s.size := by
  obtain ⟨hk, rfl⟩ := List.getElem?_eq_some_iff.1 h
  unfold tot
  rw [List.take_succ_eq_append_getElem hk, List.map_append, List.sum_append]
  simp
theorem tot_all {ss : List ByteArray} {k : Nat} (h : ss.length ≤ k) : tot (ss.take k) = tot ss := by rw [List.take_of_length_le h]
theorem tot_take_le (ss : List ByteArray) (k : Nat) : tot (ss.take k) ≤ tot ss := by
  unfold tot
  conv => rhs; rw [← List.take_append_drop k ss]
  rw [List.map_append, List.sum_append]
  omega
theorem tot_mem {ss : List ByteArray} {s : ByteArray} (h : s ∈ ss) : s.size ≤ tot ss := by
  unfold tot
  induction ss with
  | nil => cases h
  | cons x r ih =>
    rw [List.map_cons, List.sum_cons]
    rcases List.mem_cons.1 h with rfl | h
    · omega
    · have := ih h
      omega

def TotRel (ss : List ByteArray) (len base : Nat) (s7 s8 : Value) : Prop := ∃ k : Nat, k ≤ len ∧ s8 = .int .i64 k ∧ s7 = .int .i64 (base + tot (ss.take k) : Nat) ∧ base + tot (ss.take k) ≤ 1048576

set_option maxHeartbeats 4000000 in
set_option maxRecDepth 100000 in
theorem bytes4_any (q : ByteArray) (a1 : Option Addr) (l1 c1 : Nat) (ss : List ByteArray) (a2 : Option Addr) (l2 c2 : Nat) (hs : List ByteArray) (a3 : Option Addr) (l3 c3 : Nat) (ts : List ByteArray) (a4 : Option Addr) (l4 c4 : Nat) (us : List ByteArray) (w : World) (hq : q.size ≤ maxLen)
    (h1 : InRow w a1 l1 c1 (ss.map Value.string)) (h2 : InRow w a2 l2 c2 (hs.map Value.string)) (h3 : InRow w a3 l3 c3 (ts.map Value.string)) (h4 : InRow w a4 l4 c4 (us.map Value.string)) (k1 : ∀ s ∈ ss, s.size ≤ maxLen) (k2 : ∀ s ∈ hs, s.size ≤ maxLen) (k3 : ∀ s ∈ ts, s.size ≤ maxLen) (k4 : ∀ s ∈ us, s.size ≤ maxLen) :
    Calls Tryz.prog 4 #[.string q, .slice a1 l1 c1, .slice a2 l2 c2, .slice a3 l3 c3, .slice a4 l4 c4] w (Ans (q.size + (l1 + tot ss) + (l2 + tot hs) + (l3 + tot ts) + (l4 + tot us) ≤ 1048576) w) := by
  have hcap1 := h1.cap
  have hlen1 := h1.len
  rw [List.length_map] at hlen1
  have H1 := Lib.hid (And.intro h1 (And.intro k1 hlen1))
  clear h1 k1 hlen1
  unfold maxLen at hcap1
  obtain ⟨hca1, hcb1⟩ := hcap1
  have hcap2 := h2.cap
  have hlen2 := h2.len
  rw [List.length_map] at hlen2
  have H2 := Lib.hid (And.intro h2 (And.intro k2 hlen2))
  clear h2 k2 hlen2
  unfold maxLen at hcap2
  obtain ⟨hca2, hcb2⟩ := hcap2
  have hcap3 := h3.cap
  have hlen3 := h3.len
  rw [List.length_map] at hlen3
  have H3 := Lib.hid (And.intro h3 (And.intro k3 hlen3))
  clear h3 k3 hlen3
  unfold maxLen at hcap3
  obtain ⟨hca3, hcb3⟩ := hcap3
  have hcap4 := h4.cap
  have hlen4 := h4.len
  rw [List.length_map] at hlen4
  have H4 := Lib.hid (And.intro h4 (And.intro k4 hlen4))
  clear h4 k4 hlen4
  unfold maxLen at hcap4
  obtain ⟨hca4, hcb4⟩ := hcap4
  unfold maxLen at hq
  go_enter Tryz.func4, Tryz.ntmps4
  go_wp2_with fail
  all_goals first
    | (go_ret; exact ⟨_, rfl, rfl, fun h => by cases h⟩)
    | skip
  go_loop [11, 12] (fun s11 sk => TotRel ss l1 (q.size + l1) s11 sk) (fun _ sk => l1 - (intOf sk).toNat)
  case atStart => exact ⟨0, Nat.zero_le _, rfl, by simp [tot], by simp [tot]; omega⟩
  case round =>
    obtain ⟨k, hk, rfl, rfl, hn⟩ := hrel
    by_cases hlt : k < l1
    · obtain ⟨x, s, rfl, hsk, hc⟩ := H1.out.1.get hlt
      have hsz := H1.out.2.1 s (List.mem_of_getElem? hsk)
      unfold maxLen at hsz
      have hnx := tot_next hsk
      obtain ⟨m, hm⟩ : ∃ m, tot (ss.take k) = m := ⟨_, rfl⟩
      rw [hm] at hn hnx ⊢
      have HX := Lib.hid hnx
      clear hnx hm hsk
      go_wp2_with fail
      all_goals first
        | (go_ret; exact ⟨_, rfl, rfl, fun h => by cases h⟩)
        | skip
      go_round
      case rel => exact ⟨k + 1, by omega, by go_num, by rw [HX.out]; go_num, by rw [HX.out]; omega⟩
      case measure => simp [intOf]; omega
    · have he := tot_all (ss := ss) (k := k) (by have := H1.out.2.2; omega)
      rw [he] at hn ⊢
      obtain ⟨m1, hm⟩ : ∃ m1, tot ss = m1 := ⟨_, rfl⟩
      rw [hm] at hn ⊢
      have HM1 := Lib.hid hm
      clear he hm
      go_wp2_with fail
      all_goals first
        | (go_ret; exact ⟨_, rfl, rfl, fun h => by cases h⟩)
        | skip
      go_loop [11, 13] (fun s11 sk => TotRel hs l2 (q.size + l1 + m1 + l2) s11 sk) (fun _ sk => l2 - (intOf sk).toNat)
      case atStart => exact ⟨0, Nat.zero_le _, rfl, by simp [tot], by simp [tot]; omega⟩
      case round =>
        obtain ⟨k, hk, rfl, rfl, hn⟩ := hrel
        by_cases hlt : k < l2
        · obtain ⟨x, s, rfl, hsk, hc⟩ := H2.out.1.get hlt
          have hsz := H2.out.2.1 s (List.mem_of_getElem? hsk)
          unfold maxLen at hsz
          have hnx := tot_next hsk
          obtain ⟨m, hm⟩ : ∃ m, tot (hs.take k) = m := ⟨_, rfl⟩
          rw [hm] at hn hnx ⊢
          have HX := Lib.hid hnx
          clear hnx hm hsk
          go_wp2_with fail
          all_goals first
            | (go_ret; exact ⟨_, rfl, rfl, fun h => by cases h⟩)
            | skip
          go_round
          case rel => exact ⟨k + 1, by omega, by go_num, by rw [HX.out]; go_num, by rw [HX.out]; omega⟩
          case measure => simp [intOf]; omega
        · have he := tot_all (ss := hs) (k := k) (by have := H2.out.2.2; omega)
          rw [he] at hn ⊢
          obtain ⟨m2, hm⟩ : ∃ m2, tot hs = m2 := ⟨_, rfl⟩
          rw [hm] at hn ⊢
          have HM2 := Lib.hid hm
          clear he hm
          go_wp2_with fail
          all_goals first
            | (go_ret; exact ⟨_, rfl, rfl, fun h => by cases h⟩)
            | skip
          go_loop [11, 14] (fun s11 sk => TotRel ts l3 (q.size + l1 + m1 + l2 + m2 + l3) s11 sk) (fun _ sk => l3 - (intOf sk).toNat)
          case atStart => exact ⟨0, Nat.zero_le _, rfl, by simp [tot], by simp [tot]; omega⟩
          case round =>
            obtain ⟨k, hk, rfl, rfl, hn⟩ := hrel
            by_cases hlt : k < l3
            · obtain ⟨x, s, rfl, hsk, hc⟩ := H3.out.1.get hlt
              have hsz := H3.out.2.1 s (List.mem_of_getElem? hsk)
              unfold maxLen at hsz
              have hnx := tot_next hsk
              obtain ⟨m, hm⟩ : ∃ m, tot (ts.take k) = m := ⟨_, rfl⟩
              rw [hm] at hn hnx ⊢
              have HX := Lib.hid hnx
              clear hnx hm hsk
              go_wp2_with fail
              all_goals first
                | (go_ret; exact ⟨_, rfl, rfl, fun h => by cases h⟩)
                | skip
              go_round
              case rel => exact ⟨k + 1, by omega, by go_num, by rw [HX.out]; go_num, by rw [HX.out]; omega⟩
              case measure => simp [intOf]; omega
            · have he := tot_all (ss := ts) (k := k) (by have := H3.out.2.2; omega)
              rw [he] at hn ⊢
              obtain ⟨m3, hm⟩ : ∃ m3, tot ts = m3 := ⟨_, rfl⟩
              rw [hm] at hn ⊢
              have HM3 := Lib.hid hm
              clear he hm
              go_wp2_with fail
              all_goals first
                | (go_ret; exact ⟨_, rfl, rfl, fun h => by cases h⟩)
                | skip
              go_loop [11, 15] (fun s11 sk => TotRel us l4 (q.size + l1 + m1 + l2 + m2 + l3 + m3 + l4) s11 sk) (fun _ sk => l4 - (intOf sk).toNat)
              case atStart => exact ⟨0, Nat.zero_le _, rfl, by simp [tot], by simp [tot]; omega⟩
              case round =>
                obtain ⟨k, hk, rfl, rfl, hn⟩ := hrel
                by_cases hlt : k < l4
                · obtain ⟨x, s, rfl, hsk, hc⟩ := H4.out.1.get hlt
                  have hsz := H4.out.2.1 s (List.mem_of_getElem? hsk)
                  unfold maxLen at hsz
                  have hnx := tot_next hsk
                  obtain ⟨m, hm⟩ : ∃ m, tot (us.take k) = m := ⟨_, rfl⟩
                  rw [hm] at hn hnx ⊢
                  have HX := Lib.hid hnx
                  clear hnx hm hsk
                  go_wp2_with fail
                  all_goals first
                    | (go_ret; exact ⟨_, rfl, rfl, fun h => by cases h⟩)
                    | skip
                  go_round
                  case rel => exact ⟨k + 1, by omega, by go_num, by rw [HX.out]; go_num, by rw [HX.out]; omega⟩
                  case measure => simp [intOf]; omega
                · have he := tot_all (ss := us) (k := k) (by have := H4.out.2.2; omega)
                  rw [he] at hn ⊢
                  obtain ⟨m4, hm⟩ : ∃ m4, tot us = m4 := ⟨_, rfl⟩
                  rw [hm] at hn ⊢
                  have HM4 := Lib.hid hm
                  clear he hm
                  go_wp2_with fail
                  all_goals
                    go_ret
                    exact ⟨_, rfl, rfl, fun h => by first | exact absurd h (by decide) | (have := HM1.out; have := HM2.out; have := HM3.out; have := HM4.out; omega)⟩

set_option maxHeartbeats 1000000 in
theorem bytesOf_any (a0 : Option Addr) (l0 c0 : Nat) (ss : List ByteArray) (w : World) (h0 : InRow w a0 l0 c0 (ss.map Value.string)) (hl0 : l0 ≤ 1048576) (hs : tot ss ≤ 1048576) :
    Calls Tryz.prog 15 #[.slice a0 l0 c0] w fun e w' => e = .returned (.int .i64 (16 * l0 + tot ss : Nat)) ∧ w = w' := by
  have hlen := h0.len
  rw [List.length_map] at hlen
  have H0 := Lib.hid h0
  have HL := Lib.hid hlen
  have HS := Lib.hid hs
  clear h0 hs hlen
  go_enter Tryz.func15, Tryz.ntmps15
  go_wp2_with fail
  go_loop [3, 4] (fun s7 s8 => ∃ k : Nat, k ≤ l0 ∧ s8 = .int .i64 k ∧ s7 = .int .i64 (16 * l0 + tot (ss.take k) : Nat)) (fun _ s8 => l0 - (intOf s8).toNat)
  case atStart => exact ⟨0, Nat.zero_le _, rfl, by simp [tot]⟩
  case round =>
    obtain ⟨k, hk, rfl, rfl⟩ := hrel
    by_cases hlt : k < l0
    · obtain ⟨x, s, rfl, hsk, hc⟩ := H0.out.get hlt
      have hnx := tot_next hsk
      have hle := tot_take_le ss (k + 1)
      have hle2 := HS.out
      rw [hnx] at hle
      obtain ⟨m, hm⟩ : ∃ m, tot (ss.take k) = m := ⟨_, rfl⟩
      rw [hm] at hle hnx ⊢
      have hms : m + s.size ≤ 1048576 := by omega
      have HX := Lib.hid hnx
      clear hnx hm hsk hle hle2
      go_wp2_with fail
      go_round
      case rel => exact ⟨k + 1, by omega, by go_num, by rw [HX.out]; go_num⟩
      case measure => simp [intOf]; omega
    · have he := tot_all (ss := ss) (k := k) (by have := HL.out; omega)
      obtain rfl : k = l0 := by omega
      rw [he]
      clear he
      go_wp2_with fail
      go_ret
      exact ⟨rfl, rfl⟩

set_option maxHeartbeats 1000000 in
set_option maxRecDepth 100000 in
theorem sizes_any (q : ByteArray) (a1 : Option Addr) (l1 c1 : Nat) (ss : List ByteArray) (a2 : Option Addr) (l2 c2 : Nat) (hs : List ByteArray) (a3 : Option Addr) (l3 c3 : Nat) (ts : List ByteArray) (a4 : Option Addr) (l4 c4 : Nat) (us : List ByteArray) (w : World)
    (h1 : InRow w a1 l1 c1 (ss.map Value.string)) (h2 : InRow w a2 l2 c2 (hs.map Value.string)) (h3 : InRow w a3 l3 c3 (ts.map Value.string)) (h4 : InRow w a4 l4 c4 (us.map Value.string)) (hb : q.size + (l1 + tot ss) + (l2 + tot hs) + (l3 + tot ts) + (l4 + tot us) ≤ 1048576) :
    Calls Tryz.prog 5 #[.string q, .slice a1 l1 c1, .slice a2 l2 c2, .slice a3 l3 c3, .slice a4 l4 c4] w fun e w' => (∃ n : Nat, e = .returned (.int .i64 n)) ∧ w = w' := by
  have k1 := bytesOf_any a1 l1 c1 ss w h1 (by omega) (by omega)
  have k2 := bytesOf_any a2 l2 c2 hs w h2 (by omega) (by omega)
  have k3 := bytesOf_any a3 l3 c3 ts w h3 (by omega) (by omega)
  have k4 := bytesOf_any a4 l4 c4 us w h4 (by omega) (by omega)
  obtain ⟨m1, hm1⟩ : ∃ m, 16 * l1 + tot ss = m := ⟨_, rfl⟩
  obtain ⟨m2, hm2⟩ : ∃ m, 16 * l2 + tot hs = m := ⟨_, rfl⟩
  obtain ⟨m3, hm3⟩ : ∃ m, 16 * l3 + tot ts = m := ⟨_, rfl⟩
  obtain ⟨m4, hm4⟩ : ∃ m, 16 * l4 + tot us = m := ⟨_, rfl⟩
  rw [hm1] at k1
  rw [hm2] at k2
  rw [hm3] at k3
  rw [hm4] at k4
  have b1 : m1 ≤ 16777216 := by omega
  have b2 : m2 ≤ 16777216 := by omega
  have b3 : m3 ≤ 16777216 := by omega
  have b4 : m4 ≤ 16777216 := by omega
  have b0 : q.size ≤ 1048576 := by omega
  clear h1 h2 h3 h4 hb hm1 hm2 hm3 hm4
  go_enter Tryz.func5, Tryz.ntmps5
  go_wp2_with fail
  refine k1.mono ?_
  rintro e w' ⟨rfl, hw⟩
  obtain rfl := hw.symm
  clear hw
  go_wp2_with fail
  refine k2.mono ?_
  rintro e w' ⟨rfl, hw⟩
  obtain rfl := hw.symm
  clear hw
  go_wp2_with fail
  refine k3.mono ?_
  rintro e w' ⟨rfl, hw⟩
  obtain rfl := hw.symm
  clear hw
  go_wp2_with fail
  refine k4.mono ?_
  rintro e w' ⟨rfl, hw⟩
  obtain rfl := hw.symm
  clear hw
  go_wp2_with fail
  go_ret
  exact ⟨⟨q.size + m1 + m2 + m3 + m4, by congr 2⟩, rfl⟩

theorem info9 : (Tryz.prog.info? 9).map (fun i => (i.zero, i.size, i.bytes)) = some (some (.string ⟨#[]⟩), 1, 16) := by kernel_rfl
theorem row_in {w : World} {g n : Nat} {t : TypeId} {f : Nat → Value} {vs : List Value} (h : Row w g t n f) (hn : n ≤ maxLen) (hl : vs.length = n) (hf : ∀ i u, vs[i]? = some u → f i = u) : InRow w (some ⟨g, 0, none⟩) n n vs := by
  refine .inr ⟨_, rfl, Nat.le_refl _, hn, hl, fun i u hu => ?_⟩
  have hi : i < n := by have := (List.getElem?_eq_some_iff.1 hu).1; omega
  have := h.cell hi
  rw [hf i u hu] at this
  have e : (⟨g, 0, none⟩ : Addr).add i = ⟨g, i, none⟩ := by
    unfold Addr.add
    split
    · next h0 => rw [h0]
    · simp
  rw [e]
  exact this

/-- What a cloned row holds when k of its elements are laid. -/
def part {α : Type} (con : α → Value) (z : Value) (xs : List α) (k j : Nat) : Value := if j < k then (xs.map con).getD j z else z
theorem part_next {α : Type} {con : α → Value} {z : Value} {xs : List α} {k : Nat} {u : α} (hu : xs[k]? = some u) (j : Nat) : (if j = k then con u else part con z xs k j) = part con z xs (k + 1) j := by
  unfold part
  by_cases e : j = k
  · subst e
    rw [if_pos rfl, if_pos (by omega), List.getD_eq_getElem?_getD, List.getElem?_map, hu]
    rfl
  · rw [if_neg e]
    by_cases h : j < k
    · rw [if_pos h, if_pos (by omega)]
    · rw [if_neg h, if_neg (by omega)]
theorem part_all {α : Type} {con : α → Value} {z : Value} {xs : List α} {k : Nat} (hk : k = xs.length) (i : Nat) (u : Value) (hu : (xs.map con)[i]? = some u) : part con z xs k i = u := by
  unfold part
  rw [if_pos (by have := (List.getElem?_eq_some_iff.1 hu).1; simp at this; omega), List.getD_eq_getElem?_getD, hu]
  rfl
def CloneRel {α : Type} (con : α → Value) (z : Value) (xs : List α) (t : TypeId) (len : Nat) (w : World) (s : Value) (wr : World) : Prop :=
  ∃ k : Nat, k ≤ len ∧ s = .int .i64 k ∧ Row wr w.heap.size t len (part con z xs k) ∧ Below w.heap.size w wr
def CloneEnd (vs : List Value) (len : Nat) (w : World) (e : Ending) (w' : World) : Prop := ∃ A cap, e = .returned (.slice A len cap) ∧ InRow w' A len cap vs ∧ Below w.heap.size w w'

set_option maxHeartbeats 1000000 in
set_option maxRecDepth 100000 in
theorem cloneS (a : Option Addr) (len cap : Nat) (xs : List ByteArray) (w : World) (h : InRow w a len cap (xs.map Value.string)) (hl : len ≤ 1048576) : Calls Tryz.prog 7 #[.slice a len cap] w (CloneEnd (xs.map Value.string) len w) := by
  have hlen := h.len
  rw [List.length_map] at hlen
  cases a with
  | none =>
    obtain ⟨rfl, rfl⟩ : len = 0 ∧ cap = 0 := by
      rcases h with ⟨_, h1, h2, _⟩ | ⟨x, h1, _⟩
      · exact ⟨h1, h2⟩
      · cases h1
    obtain rfl : xs = [] := List.eq_nil_of_length_eq_zero hlen
    have q := Lib.run_eql_slice_nil (P := Tryz.prog)
    go_enter Tryz.func7, Tryz.ntmps7
    go_wp2
    go_ret
    exact ⟨none, 0, rfl, .inl ⟨rfl, rfl, rfl, rfl⟩, Below.refl _ _⟩
  | some x =>
    obtain ⟨i0, hi, hz0, hz1, hz2⟩ := info_parts info9
    have HI := Lib.hid (And.intro hi (And.intro hz0 (And.intro hz1 hz2)))
    have H0 := Lib.hid h
    have HL := Lib.hid hlen
    clear hi hz0 hz1 hz2 h hlen
    have q := Lib.run_eql_slice_nil (P := Tryz.prog)
    go_enter Tryz.func7, Tryz.ntmps7
    go_wp2_with (at_make; refine wpList_make_full _ rfl (.tmp 8) (.tmp 8) 22 rfl w.heap.size 9 i0 (.string ⟨#[]⟩) 1 Tryz.underlying22 HI.out.1 HI.out.2.1 HI.out.2.2.1 _ _ _ _ len rfl rfl rfl rfl (by rw [HI.out.2.2.2]; omega) (by unfold maxLen; omega) (Nat.le_refl _) ?_; intro w2 hown hgrow)
    have r0 : Row w2 w.heap.size 9 (len * 1) (part Value.string (.string ⟨#[]⟩) xs 0) := row_made (size := 1) rfl (by decide) _ (fun i _ => by
      rw [Nat.mod_one]; rfl) hown
    rw [Nat.mul_one] at r0
    have hb2 : Below w.heap.size w w2 := (Below.refl _ _).grown hgrow (Nat.le_refl _) (fun k hk => by cases hk)
    have HR := Lib.hid (And.intro r0 hb2)
    clear r0 hb2 hown hgrow
    go_loopw [4] (fun s4 wr => CloneRel Value.string (.string ⟨#[]⟩) xs 9 len w s4 wr) (fun s4 _ => len - (intOf s4).toNat)
    case atStart => exact ⟨0, Nat.zero_le _, rfl, HR.out⟩
    case round =>
      obtain ⟨k, hk, rfl, hr, hb⟩ := hrel
      have HRB := Lib.hid (And.intro hr hb)
      by_cases hlt : k < len
      · obtain ⟨x', u, hx, hu, hc⟩ := (H0.out.up hb).get hlt
        obtain rfl : x = x' := Option.some.inj hx
        have c0 := hr.cell hlt
        have f0 := hr.frozen k
        have hrl := hr.lt
        have HU := Lib.hid hu
        clear hu hr hb hx
        go_wp2_with fail
        go_roundw
        case rel => exact ⟨k + 1, by omega, by go_num, (HRB.out.1.set k _).congr (fun j _ => part_next HU.out j), HRB.out.2.setCell (p := ⟨w.heap.size, k, none⟩) (Nat.le_refl _) _⟩
        case measure => simp [intOf]; omega
      · clear hr hb
        go_wp2_with fail
        go_ret
        exact ⟨_, _, rfl, row_in HRB.out.1 (by unfold maxLen; omega) (by rw [List.length_map]; exact HL.out) (part_all (by have := HL.out; omega)), HRB.out.2⟩

end Go.Proofs.YtglchiomdojjoaaGreatFmt
