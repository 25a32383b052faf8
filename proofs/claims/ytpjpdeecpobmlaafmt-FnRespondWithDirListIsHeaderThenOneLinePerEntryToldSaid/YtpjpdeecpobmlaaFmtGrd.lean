/-
  The contracts of the size guards, of the strings' sum and of counting a byte; conditions: those that each names.
-/
import Derived.Test.YtpjpdeecpobmlaaFmtRowIn
import Derived.Test.YtpjpdeecpobmlaaFmtStr
import Derived.Test.YtpjpdeecpobmlaaFmtRows
import Derived.WalkSpells
import Derived.OpenShut
import Derived.Deep.DeepCutAuto
import Derived.Deep.CutBlock
import Derived.Lib.IndexBytes
import Derived.WalkLawsBesides
namespace Go.Proofs.YtpjpdeecpobmlaaFmt
open Go.RowKit

theorem InRow.get {α : Type} {con : α → Value} {w : World} {a : Option Addr} {len cap : Nat} {xs : List α} (h : InRow w a len cap (xs.map con)) {i : Nat} (hi : i < len) : ∃ x u, a = some x ∧ xs[i]? = some u ∧ w.cell? (x.add i) = some (con u) := by
  obtain ⟨x, h1, h2⟩ := h.at hi
  have hl := h.len
  rw [List.length_map] at hl
  refine ⟨x, xs[i], h1, List.getElem?_eq_getElem (by omega), ?_⟩
  rw [h2, List.getElem?_map, List.getElem?_eq_getElem (by omega)]
  rfl

/-- A guard's answer. -/
def Ans (P : Prop) (w : World) (e : Ending) (w' : World) : Prop := ∃ b : Bool, e = .returned (.bool b) ∧ w = w' ∧ (b = true → P)
/-- All their bytes. -/
def tot (ss : List ByteArray) : Nat := (ss.map ByteArray.size).sum
theorem tot_next {ss : List ByteArray} {k : Nat} {s : ByteArray} (h : ss[k]? = some s) : tot (ss.take (k + 1)) = tot (ss.take k) + s.size := by
  obtain ⟨hk, rfl⟩ := List.getElem?_eq_some_iff.1 h
  unfold tot
  rw [List.take_succ_eq_append_getElem hk, List.map_append, List.sum_append]
  simp
theorem tot_all {ss : List ByteArray} {k : Nat} (h : ss.length ≤ k) : tot (ss.take k) = tot ss := by rw [List.take_of_length_le h]
theorem tot_take_le (ss : List ByteArray) (k : Nat) : tot (ss.take k) ≤ tot ss := by
  unfold tot
  conv => rhs; rw [← List.take_append_drop k ss]
  rw [List.map_append, List.sum_append]
  omega
theorem tot_mem {ss : List ByteArray} {s : ByteArray} (h : s ∈ ss) : s.size ≤ tot ss := by
  unfold tot
  induction ss with
  | nil => cases h
  | cons x r ih =>
    rw [List.map_cons, List.sum_cons]
    rcases List.mem_cons.1 h with rfl | h
    · omega
    · have := ih h
      omega

def TotRel (ss : List ByteArray) (len base : Nat) (s7 s8 : Value) : Prop := ∃ k : Nat, k ≤ len ∧ s8 = .int .i64 k ∧ s7 = .int .i64 (base + tot (ss.take k) : Nat) ∧ base + tot (ss.take k) ≤ 1048576

set_option maxHeartbeats 2000000 in
set_option maxRecDepth 100000 in
theorem bytesA_any (q : ByteArray) (a1 : Option Addr) (l1 c1 : Nat) (ss : List ByteArray) (a2 : Option Addr) (l2 c2 : Nat) (ts : List ByteArray) (w : World) (h1 : InRow w a1 l1 c1 (ss.map Value.string)) (h2 : InRow w a2 l2 c2 (ts.map Value.string)) (hs : ∀ s ∈ ss, s.size ≤ maxLen) (ht : ∀ s ∈ ts, s.size ≤ maxLen) (hq : q.size ≤ maxLen) :
    Calls Tryf.prog 5 #[.string q, .slice a1 l1 c1, .slice a2 l2 c2] w (Ans (q.size + (l1 + tot ss) + (l2 + tot ts) ≤ 1048576) w) := by
  have hcap1 := h1.cap
  have hcap2 := h2.cap
  have hlen1 := h1.len
  have hlen2 := h2.len
  rw [List.length_map] at hlen1 hlen2
  have H1 := Lib.hid h1
  have H2 := Lib.hid h2
  have HS := Lib.hid (And.intro hs ht)
  have HL := Lib.hid (And.intro hlen1 hlen2)
  clear h1 h2 hs ht hlen1 hlen2
  unfold maxLen at hq hcap1 hcap2
  obtain ⟨hc1, hc2⟩ := hcap1
  obtain ⟨hc3, hc4⟩ := hcap2
  go_enter Tryf.func5, Tryf.ntmps5
  go_wp2_with fail
  all_goals first
    | (go_ret; exact ⟨_, rfl, rfl, fun h => by cases h⟩)
    | skip
  go_loop [7, 8] (fun s7 s8 => TotRel ss l1 (q.size + l1) s7 s8) (fun _ s8 => l1 - (intOf s8).toNat)
  case atStart => exact ⟨0, Nat.zero_le _, rfl, by simp [tot], by simp [tot]; omega⟩
  case round =>
    obtain ⟨k, hk, rfl, rfl, hn⟩ := hrel
    by_cases hlt : k < l1
    · obtain ⟨x, s, rfl, hsk, hc⟩ := H1.out.get hlt
      have hsz := HS.out.1 s (List.mem_of_getElem? hsk)
      unfold maxLen at hsz
      have hnx := tot_next hsk
      obtain ⟨m, hm⟩ : ∃ m, tot (ss.take k) = m := ⟨_, rfl⟩
      rw [hm] at hn hnx ⊢
      have HX := Lib.hid hnx
      clear hnx hm hsk
      go_wp2_with fail
      all_goals first
        | (go_ret; exact ⟨_, rfl, rfl, fun h => by cases h⟩)
        | skip
      go_round
      case rel => exact ⟨k + 1, by omega, by go_num, by rw [HX.out]; go_num, by rw [HX.out]; omega⟩
      case measure => simp [intOf]; omega
    · have he := tot_all (ss := ss) (k := k) (by have := HL.out.1; omega)
      rw [he] at hn ⊢
      obtain ⟨m, hm⟩ : ∃ m, tot ss = m := ⟨_, rfl⟩
      rw [hm] at hn ⊢
      have HM := Lib.hid hm
      clear he hm
      go_wp2_with fail
      all_goals first
        | (go_ret; exact ⟨_, rfl, rfl, fun h => by cases h⟩)
        | skip
      go_loop [7, 9] (fun s7 s8 => TotRel ts l2 (q.size + l1 + m + l2) s7 s8) (fun _ s8 => l2 - (intOf s8).toNat)
      case atStart => exact ⟨0, Nat.zero_le _, rfl, by simp [tot], by simp [tot]; omega⟩
      case round =>
        obtain ⟨k, hk, rfl, rfl, hn⟩ := hrel
        by_cases hlt : k < l2
        · obtain ⟨x, s, rfl, hsk, hc⟩ := H2.out.get hlt
          have hsz := HS.out.2 s (List.mem_of_getElem? hsk)
          unfold maxLen at hsz
          have hnx := tot_next hsk
          obtain ⟨m2, hm2⟩ : ∃ m2, tot (ts.take k) = m2 := ⟨_, rfl⟩
          rw [hm2] at hn hnx ⊢
          have HX := Lib.hid hnx
          clear hnx hm2 hsk
          go_wp2_with fail
          all_goals first
            | (go_ret; exact ⟨_, rfl, rfl, fun h => by cases h⟩)
            | skip
          go_round
          case rel => exact ⟨k + 1, by omega, by go_num, by rw [HX.out]; go_num, by rw [HX.out]; omega⟩
          case measure => simp [intOf]; omega
        · have he := tot_all (ss := ts) (k := k) (by have := HL.out.2; omega)
          rw [he] at hn ⊢
          obtain ⟨m2, hm2⟩ : ∃ m2, tot ts = m2 := ⟨_, rfl⟩
          rw [hm2] at hn ⊢
          have HM2 := Lib.hid hm2
          clear he hm2
          go_wp2_with fail
          all_goals
            go_ret
            exact ⟨_, rfl, rfl, fun h => by first | exact absurd h (by decide) | (have := HM.out; have := HM2.out; omega)⟩

set_option maxHeartbeats 2000000 in
set_option maxRecDepth 100000 in
theorem bytesB_any (q : ByteArray) (a1 : Option Addr) (l1 c1 : Nat) (ss : List ByteArray) (a2 : Option Addr) (l2 c2 : Nat) (ts : List ByteArray) (w : World) (h1 : InRow w a1 l1 c1 (ss.map Value.string)) (h2 : InRow w a2 l2 c2 (ts.map Value.string)) (hs : ∀ s ∈ ss, s.size ≤ maxLen) (ht : ∀ s ∈ ts, s.size ≤ maxLen) (hq : q.size ≤ maxLen) :
    Calls Tryf.prog 9 #[.string q, .slice a1 l1 c1, .slice a2 l2 c2] w (Ans (q.size + (l1 + tot ss) + (l2 + tot ts) ≤ 1048576) w) := by
  have hcap1 := h1.cap
  have hcap2 := h2.cap
  have hlen1 := h1.len
  have hlen2 := h2.len
  rw [List.length_map] at hlen1 hlen2
  have H1 := Lib.hid h1
  have H2 := Lib.hid h2
  have HS := Lib.hid (And.intro hs ht)
  have HL := Lib.hid (And.intro hlen1 hlen2)
  clear h1 h2 hs ht hlen1 hlen2
  unfold maxLen at hq hcap1 hcap2
  obtain ⟨hc1, hc2⟩ := hcap1
  obtain ⟨hc3, hc4⟩ := hcap2
  go_enter Tryf.func9, Tryf.ntmps9
  go_wp2_with fail
  all_goals first
    | (go_ret; exact ⟨_, rfl, rfl, fun h => by cases h⟩)
    | skip
  go_loop [7, 8] (fun s7 s8 => TotRel ss l1 (q.size + l1) s7 s8) (fun _ s8 => l1 - (intOf s8).toNat)
  case atStart => exact ⟨0, Nat.zero_le _, rfl, by simp [tot], by simp [tot]; omega⟩
  case round =>
    obtain ⟨k, hk, rfl, rfl, hn⟩ := hrel
    by_cases hlt : k < l1
    · obtain ⟨x, s, rfl, hsk, hc⟩ := H1.out.get hlt
      have hsz := HS.out.1 s (List.mem_of_getElem? hsk)
      unfold maxLen at hsz
      have hnx := tot_next hsk
      obtain ⟨m, hm⟩ : ∃ m, tot (ss.take k) = m := ⟨_, rfl⟩
      rw [hm] at hn hnx ⊢
      have HX := Lib.hid hnx
      clear hnx hm hsk
      go_wp2_with fail
      all_goals first
        | (go_ret; exact ⟨_, rfl, rfl, fun h => by cases h⟩)
        | skip
      go_round
      case rel => exact ⟨k + 1, by omega, by go_num, by rw [HX.out]; go_num, by rw [HX.out]; omega⟩
      case measure => simp [intOf]; omega
    · have he := tot_all (ss := ss) (k := k) (by have := HL.out.1; omega)
      rw [he] at hn ⊢
      obtain ⟨m, hm⟩ : ∃ m, tot ss = m := ⟨_, rfl⟩
      rw [hm] at hn ⊢
      have HM := Lib.hid hm
      clear he hm
      go_wp2_with fail
      all_goals first
        | (go_ret; exact ⟨_, rfl, rfl, fun h => by cases h⟩)
        | skip
      go_loop [7, 9] (fun s7 s8 => TotRel ts l2 (q.size + l1 + m + l2) s7 s8) (fun _ s8 => l2 - (intOf s8).toNat)
      case atStart => exact ⟨0, Nat.zero_le _, rfl, by simp [tot], by simp [tot]; omega⟩
      case round =>
        obtain ⟨k, hk, rfl, rfl, hn⟩ := hrel
        by_cases hlt : k < l2
        · obtain ⟨x, s, rfl, hsk, hc⟩ := H2.out.get hlt
          have hsz := HS.out.2 s (List.mem_of_getElem? hsk)
          unfold maxLen at hsz
          have hnx := tot_next hsk
          obtain ⟨m2, hm2⟩ : ∃ m2, tot (ts.take k) = m2 := ⟨_, rfl⟩
          rw [hm2] at hn hnx ⊢
          have HX := Lib.hid hnx
          clear hnx hm2 hsk
          go_wp2_with fail
          all_goals first
            | (go_ret; exact ⟨_, rfl, rfl, fun h => by cases h⟩)
            | skip
          go_round
          case rel => exact ⟨k + 1, by omega, by go_num, by rw [HX.out]; go_num, by rw [HX.out]; omega⟩
          case measure => simp [intOf]; omega
        · have he := tot_all (ss := ts) (k := k) (by have := HL.out.2; omega)
          rw [he] at hn ⊢
          obtain ⟨m2, hm2⟩ : ∃ m2, tot ts = m2 := ⟨_, rfl⟩
          rw [hm2] at hn ⊢
          have HM2 := Lib.hid hm2
          clear he hm2
          go_wp2_with fail
          all_goals
            go_ret
            exact ⟨_, rfl, rfl, fun h => by first | exact absurd h (by decide) | (have := HM.out; have := HM2.out; omega)⟩

set_option maxHeartbeats 1000000 in
theorem strsBytes_any (a0 : Option Addr) (l0 c0 : Nat) (ss : List ByteArray) (w : World) (h0 : InRow w a0 l0 c0 (ss.map Value.string)) (hs : l0 + tot ss ≤ 1048576) :
    Calls Tryf.prog 6 #[.slice a0 l0 c0] w fun e w' => e = .returned (.int .i64 (16 * l0 + tot ss : Nat)) ∧ w = w' := by
  have hlen := h0.len
  rw [List.length_map] at hlen
  have H0 := Lib.hid h0
  have HL := Lib.hid hlen
  have HS := Lib.hid hs
  have hl1 : l0 ≤ 1048576 := by omega
  clear h0 hs hlen
  go_enter Tryf.func6, Tryf.ntmps6
  go_wp2_with fail
  go_loop [3, 4] (fun s7 s8 => ∃ k : Nat, k ≤ l0 ∧ s8 = .int .i64 k ∧ s7 = .int .i64 (16 * k + tot (ss.take k) : Nat)) (fun _ s8 => l0 - (intOf s8).toNat)
  case atStart => exact ⟨0, Nat.zero_le _, rfl, by simp [tot]⟩
  case round =>
    obtain ⟨k, hk, rfl, rfl⟩ := hrel
    by_cases hlt : k < l0
    · obtain ⟨x, s, rfl, hsk, hc⟩ := H0.out.get hlt
      have hnx := tot_next hsk
      have hle := tot_take_le ss (k + 1)
      have hle2 := HS.out
      rw [hnx] at hle
      obtain ⟨m, hm⟩ : ∃ m, tot (ss.take k) = m := ⟨_, rfl⟩
      rw [hm] at hle hnx ⊢
      have hms : m + s.size ≤ 1048576 := by omega
      have HX := Lib.hid hnx
      clear hnx hm hsk hle hle2
      go_wp2_with fail
      go_round
      case rel => exact ⟨k + 1, by omega, by go_num, by rw [HX.out]; go_num⟩
      case measure => simp [intOf]; omega
    · have he := tot_all (ss := ss) (k := k) (by have := HL.out; omega)
      obtain rfl : k = l0 := by omega
      rw [he]
      clear he
      go_wp2_with fail
      go_ret
      exact ⟨rfl, rfl⟩

theorem count_next {l : List UInt8} {k : Nat} {b : UInt8} (h : l[k]? = some b) (c : UInt8) : (l.take (k + 1)).count c = (l.take k).count c + (if b = c then 1 else 0) := by
  obtain ⟨hk, rfl⟩ := List.getElem?_eq_some_iff.1 h
  rw [List.take_succ_eq_append_getElem hk, List.count_append]
  congr 1
  by_cases e : l[k] = c
  · simp [e]
  · simp [e]
set_option maxHeartbeats 1000000 in
theorem count_any (a : Option Addr) (n cap : Nat) (l : List UInt8) (c : UInt8) (w : World) (h : InRow w a n cap (bc l)) :
    Calls Tryf.prog 8 #[.slice a n cap, .int .u8 c.toNat] w fun e w' => e = .returned (.int .i64 (l.count c : Nat)) ∧ w = w' := by
  have hlen := h.len
  rw [bc_length] at hlen
  have hcp := h.cap
  unfold maxLen at hcp
  have H0 := Lib.hid h
  have HL := Lib.hid hlen
  obtain ⟨hc1, hc2⟩ := hcp
  clear h hlen
  go_enter Tryf.func8, Tryf.ntmps8
  go_wp2_with fail
  go_loop [5, 6] (fun s5 s6 => ∃ k : Nat, k ≤ n ∧ s6 = .int .i64 k ∧ s5 = .int .i64 ((l.take k).count c : Nat)) (fun _ s6 => n - (intOf s6).toNat)
  case atStart => exact ⟨0, Nat.zero_le _, rfl, by simp⟩
  case round =>
    obtain ⟨k, hk, rfl, rfl⟩ := hrel
    by_cases hlt : k < n
    · obtain ⟨x, b, rfl, hb, hc⟩ := InRow.get (con := fun b : UInt8 => Value.int .u8 b.toNat) (xs := l) H0.out hlt
      have hnx := count_next hb c
      have hle : (l.take k).count c ≤ k := Nat.le_trans List.count_le_length (by rw [List.length_take]; omega)
      obtain ⟨m, hm⟩ : ∃ m, (l.take k).count c = m := ⟨_, rfl⟩
      rw [hm] at hnx hle ⊢
      by_cases e : b = c
      · rw [if_pos e] at hnx
        have he : ((b.toNat : Int) == (c.toNat : Int)) = true := by rw [e]; simp
        have HX := Lib.hid hnx
        clear hnx hm hb
        go_wp2_with fail
        go_round
        case rel => exact ⟨k + 1, by omega, by go_num, by rw [HX.out]; go_num⟩
        case measure => simp [intOf]; omega
      · rw [if_neg e] at hnx
        have he : ((b.toNat : Int) == (c.toNat : Int)) = false := by
          apply beq_eq_false_iff_ne.2
          intro h
          exact e (UInt8.toNat_inj.1 (by omega))
        have HX := Lib.hid hnx
        clear hnx hm hb
        go_wp2_with fail
        go_round
        case rel => exact ⟨k + 1, by omega, by go_num, by rw [HX.out]; go_num⟩
        case measure => simp [intOf]; omega
    · have he : l.take k = l := List.take_of_length_le (by have := HL.out; omega)
      rw [he]
      clear he
      go_wp2_with fail
      go_ret
      exact ⟨rfl, rfl⟩

end Go.Proofs.YtpjpdeecpobmlaaFmt
