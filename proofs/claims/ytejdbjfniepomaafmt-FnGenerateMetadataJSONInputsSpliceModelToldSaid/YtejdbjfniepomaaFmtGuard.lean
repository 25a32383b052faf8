/-
  The contracts of the size and domain guards; conditions: those that each names.
-/
import Derived.Test.YtejdbjfniepomaaFmtMeta
import Derived.Test.YtejdbjfniepomaaFmtRowIn
import Derived.Test.YtejdbjfniepomaaFmtRow
import Derived.Test.YtejdbjfniepomaaFmtRows
import Derived.WalkSpells
import Derived.OpenShut
import Derived.Deep.DeepCutAuto
import Derived.Deep.CutBlock
import Derived.Lib.IndexBytes
import Derived.WalkLawsBesides
namespace Go.Proofs.YtejdbjfniepomaaFmt
open Go.RowKit

theorem InRow.get {α : Type} {con : α → Value} {w : World} {a : Option Addr} {len cap : Nat} {xs : List α} (h : InRow w a len cap (xs.map con)) {i : Nat} (hi : i < len) : ∃ x u, a = some x ∧ xs[i]? = some u ∧ w.cell? (x.add i) = some (con u) := by
  obtain ⟨x, h1, h2⟩ := h.at hi
  have hl := h.len
  rw [List.length_map] at hl
  refine ⟨x, xs[i], h1, List.getElem?_eq_getElem (by omega), ?_⟩
  rw [h2, List.getElem?_map, List.getElem?_eq_getElem (by omega)]
  rfl

/-- A guard's answer. -/
def Ans (P : Prop) (w : World) (e : Ending) (w' : World) : Prop := ∃ b : Bool, e = .returned (.bool b) ∧ w = w' ∧ (b = true → P)
def Small (ss : List ByteArray) : Prop := ∀ s ∈ ss, s.size ≤ 1048576
def SmallTo (ss : List ByteArray) (k : Nat) : Prop := ∀ i s, i < k → ss[i]? = some s → s.size ≤ 1048576
theorem SmallTo.next {ss : List ByteArray} {k : Nat} (h : SmallTo ss k) {s : ByteArray} (hs : ss[k]? = some s) (hz : s.size ≤ 1048576) : SmallTo ss (k + 1) := by
  intro i t hi ht
  by_cases e : i = k
  · subst e
    rw [hs] at ht
    injection ht with ht
    subst ht
    exact hz
  · exact h i t (by omega) ht
theorem SmallTo.all {ss : List ByteArray} {k : Nat} (h : SmallTo ss k) (hk : ss.length ≤ k) : Small ss := by
  intro s hs
  obtain ⟨i, hi⟩ := List.getElem?_of_mem hs
  exact h i s (by have := (List.getElem?_eq_some_iff.1 hi).1; omega) hi

def BytesRel (ss : List ByteArray) (len : Nat) (s7 s8 : Value) : Prop := ∃ k n : Nat, k ≤ len ∧ s8 = .int .i64 k ∧ s7 = .int .i64 n ∧ n ≤ 1048576 ∧ SmallTo ss k

set_option maxHeartbeats 1000000 in
theorem zz5_any (a0 a1 a2 : Option Addr) (l0 c0 l1 c1 l2 c2 : Nat) (ss : List ByteArray) (w : World) (h0 : InRow w a0 l0 c0 (ss.map Value.string)) (hs : ∀ s ∈ ss, s.size ≤ maxLen) (h1 : l1 ≤ maxLen) (h2 : l2 ≤ maxLen) :
    Calls Tryf.prog 5 #[.slice a0 l0 c0, .slice a1 l1 c1, .slice a2 l2 c2] w (Ans (Small ss) w) := by
  have hcap := h0.cap
  have hlen := h0.len
  rw [List.length_map] at hlen
  have H0 := Lib.hid h0
  have HS := Lib.hid hs
  have HL := Lib.hid hlen
  clear h0 hs hlen
  unfold maxLen at h1 h2 hcap
  obtain ⟨hc1, hc2⟩ := hcap
  go_enter Tryf.func5, Tryf.ntmps5
  go_wp2_with fail
  all_goals first
    | (go_ret; exact ⟨_, rfl, rfl, fun h => by cases h⟩)
    | skip
  go_loop [7, 8] (fun s7 s8 => BytesRel ss l0 s7 s8) (fun _ s8 => l0 - (intOf s8).toNat)
  case atStart => exact ⟨0, l0, Nat.zero_le _, rfl, rfl, by omega, fun i s hi => by omega⟩
  case round =>
    obtain ⟨k, n, hk, rfl, rfl, hn, hst⟩ := hrel
    have HT := Lib.hid hst
    clear hst
    by_cases hlt : k < l0
    · obtain ⟨x, s, rfl, hsk, hc⟩ := H0.out.get hlt
      have hsz := HS.out s (List.mem_of_getElem? hsk)
      unfold maxLen at hsz
      have HK := Lib.hid hsk
      clear hsk
      go_wp2_with fail
      all_goals first
        | (go_ret; exact ⟨_, rfl, rfl, fun h => by cases h⟩)
        | skip
      go_round
      case rel => exact ⟨k + 1, n + s.size, by omega, by go_num, by go_num, by omega, HT.out.next HK.out (by omega)⟩
      case measure => simp [intOf]; omega
    · go_wp2_with fail
      all_goals
        go_ret
        exact ⟨_, rfl, rfl, fun _ => HT.out.all (by have := HL.out; omega)⟩

set_option maxHeartbeats 1000000 in
theorem zz13_any (a0 a1 a2 : Option Addr) (l0 c0 l1 c1 l2 c2 : Nat) (ss : List ByteArray) (w : World) (h0 : InRow w a0 l0 c0 (ss.map Value.string)) (hs : ∀ s ∈ ss, s.size ≤ maxLen) (h1 : l1 ≤ maxLen) (h2 : l2 ≤ maxLen) :
    Calls Tryf.prog 13 #[.slice a0 l0 c0, .slice a1 l1 c1, .slice a2 l2 c2] w (Ans (Small ss) w) := by
  have hcap := h0.cap
  have hlen := h0.len
  rw [List.length_map] at hlen
  have H0 := Lib.hid h0
  have HS := Lib.hid hs
  have HL := Lib.hid hlen
  clear h0 hs hlen
  unfold maxLen at h1 h2 hcap
  obtain ⟨hc1, hc2⟩ := hcap
  go_enter Tryf.func13, Tryf.ntmps13
  go_wp2_with fail
  all_goals first
    | (go_ret; exact ⟨_, rfl, rfl, fun h => by cases h⟩)
    | skip
  go_loop [7, 8] (fun s7 s8 => BytesRel ss l0 s7 s8) (fun _ s8 => l0 - (intOf s8).toNat)
  case atStart => exact ⟨0, l0, Nat.zero_le _, rfl, rfl, by omega, fun i s hi => by omega⟩
  case round =>
    obtain ⟨k, n, hk, rfl, rfl, hn, hst⟩ := hrel
    have HT := Lib.hid hst
    clear hst
    by_cases hlt : k < l0
    · obtain ⟨x, s, rfl, hsk, hc⟩ := H0.out.get hlt
      have hsz := HS.out s (List.mem_of_getElem? hsk)
      unfold maxLen at hsz
      have HK := Lib.hid hsk
      clear hsk
      go_wp2_with fail
      all_goals first
        | (go_ret; exact ⟨_, rfl, rfl, fun h => by cases h⟩)
        | skip
      go_round
      case rel => exact ⟨k + 1, n + s.size, by omega, by go_num, by go_num, by omega, HT.out.next HK.out (by omega)⟩
      case measure => simp [intOf]; omega
    · go_wp2_with fail
      all_goals
        go_ret
        exact ⟨_, rfl, rfl, fun _ => HT.out.all (by have := HL.out; omega)⟩


def SizeP (l0 l1 l2 : Nat) : Prop := l0 ≤ 65536 ∧ l1 ≤ 1048576 ∧ l2 ≤ 262144
def SizeRel (len : Nat) (s7 s8 : Value) : Prop := ∃ k n : Nat, k ≤ len ∧ s8 = .int .i64 k ∧ s7 = .int .i64 n ∧ n ≤ 3145728
set_option maxHeartbeats 1000000 in
theorem zz6_any (a0 a1 a2 : Option Addr) (l0 c0 l1 c1 l2 c2 : Nat) (ss : List ByteArray) (w : World) (h0 : InRow w a0 l0 c0 (ss.map Value.string)) (hs : Small ss) (h1 : l1 ≤ maxLen) (h2 : l2 ≤ maxLen) :
    Calls Tryf.prog 6 #[.slice a0 l0 c0, .slice a1 l1 c1, .slice a2 l2 c2] w (Ans (SizeP l0 l1 l2) w) := by
  have hcap := h0.cap
  have H0 := Lib.hid h0
  have HS := Lib.hid hs
  clear h0 hs
  unfold maxLen at h1 h2 hcap
  obtain ⟨hc1, hc2⟩ := hcap
  by_cases d0 : l0 ≤ 65536
  rotate_left
  · go_enter Tryf.func6, Tryf.ntmps6
    go_wp2_with fail
    go_ret
    exact ⟨_, rfl, rfl, fun h => by cases h⟩
  by_cases d1 : l1 ≤ 1048576
  rotate_left
  · go_enter Tryf.func6, Tryf.ntmps6
    go_wp2_with fail
    go_ret
    exact ⟨_, rfl, rfl, fun h => by cases h⟩
  by_cases d2 : l2 ≤ 262144
  rotate_left
  · go_enter Tryf.func6, Tryf.ntmps6
    go_wp2_with fail
    go_ret
    exact ⟨_, rfl, rfl, fun h => by cases h⟩
  obtain ⟨N, hN, hNN⟩ : ∃ N : Nat, (l0 : Int) * 16 + l1 + l2 * 4 = (N : Int) ∧ N ≤ 3145728 := ⟨l0 * 16 + l1 + l2 * 4, by omega, by omega⟩
  go_enter Tryf.func6, Tryf.ntmps6
  go_wp2_with fail
  go_loop [7, 8] (fun s7 s8 => SizeRel l0 s7 s8) (fun _ s8 => l0 - (intOf s8).toNat)
  case atStart => exact ⟨0, N, Nat.zero_le _, rfl, rfl, hNN⟩
  case round =>
    clear hN
    obtain ⟨k, n, hk, rfl, rfl, hn⟩ := hrel
    by_cases hlt : k < l0
    · obtain ⟨x, s, rfl, hsk, hc⟩ := H0.out.get hlt
      have hsz := HS.out s (List.mem_of_getElem? hsk)
      clear hsk
      go_wp2_with fail
      all_goals first
        | (go_ret; exact ⟨_, rfl, rfl, fun h => by cases h⟩)
        | skip
      go_round
      case rel => exact ⟨k + 1, n + s.size, by omega, by go_num, by go_num, by omega⟩
      case measure => simp [intOf]; omega
    · go_wp2_with fail
      all_goals
        go_ret
        exact ⟨_, rfl, rfl, fun _ => ⟨d0, d1, d2⟩⟩

/-- The bytes of the chunks; the places. -/
def lst (ss : List ByteArray) : List (List UInt8) := ss.map fun s => s.data.toList
def nat (zs : List Int) : List Nat := zs.map Int.toNat
theorem lst_get {ss : List ByteArray} {i : Nat} {s : ByteArray} (h : ss[i]? = some s) : (lst ss).getD i [] = s.data.toList := by
  unfold lst
  rw [List.getD_eq_getElem?_getD, List.getElem?_map, h]
  rfl
theorem nat_get {zs : List Int} {i : Nat} {z : Int} (h : zs[i]? = some z) : (nat zs)[i]? = some z.toNat := by
  unfold nat
  rw [List.getElem?_map, h]
  rfl
theorem unfold_next {ss : List ByteArray} {zs : List Int} {k : Nat} {z : Int} {s : ByteArray} (hz : zs[k]? = some z) (hs : ss[z.toNat]? = some s) : unfoldSize (lst ss) ((nat zs).take (k + 1)) = unfoldSize (lst ss) ((nat zs).take k) + (s.size + 8) := by
  have hk := nat_get hz
  obtain ⟨hlt, he⟩ := List.getElem?_eq_some_iff.1 hk
  rw [unfold_take hlt, he, lst_get hs, ← Lib.size_eq]

def DomP (ss : List ByteArray) (zs : List Int) (l0 l1 : Nat) : Prop := l1 = l0 ∧ (∀ z ∈ zs, z.toNat < l0) ∧ unfoldSize (lst ss) (nat zs) ≤ 1048576
def InTo (zs : List Int) (l0 k : Nat) : Prop := ∀ i z, i < k → zs[i]? = some z → z.toNat < l0
def Into (zs : List Int) (l0 : Nat) : Prop := ∀ z ∈ zs, z.toNat < l0
def DomRel1 (zs : List Int) (l0 len : Nat) (s7 : Value) : Prop := ∃ k : Nat, k ≤ len ∧ s7 = .int .i64 k ∧ InTo zs l0 k
def DomRel2 (ss : List ByteArray) (zs : List Int) (len : Nat) (s8 s9 : Value) : Prop := ∃ k n : Nat, k ≤ len ∧ s9 = .int .i64 k ∧ s8 = .int .i64 n ∧ n ≤ 1048576 ∧ n = unfoldSize (lst ss) ((nat zs).take k)
theorem InTo.next {zs : List Int} {l0 k : Nat} (h : InTo zs l0 k) {z : Int} (hz : zs[k]? = some z) (hl : z.toNat < l0) : InTo zs l0 (k + 1) := by
  intro i t hi ht
  by_cases e : i = k
  · subst e
    rw [hz] at ht
    injection ht with ht
    subst ht
    exact hl
  · exact h i t (by omega) ht
theorem InTo.all {zs : List Int} {l0 k : Nat} (h : InTo zs l0 k) (hk : zs.length ≤ k) : ∀ z ∈ zs, z.toNat < l0 := by
  intro z hz
  obtain ⟨i, hi⟩ := List.getElem?_of_mem hz
  exact h i z (by have := (List.getElem?_eq_some_iff.1 hi).1; omega) hi

set_option maxHeartbeats 2000000 in
set_option maxRecDepth 100000 in
theorem zz7_any (a0 a1 a2 : Option Addr) (l0 c0 l1 c1 l2 c2 : Nat) (ss : List ByteArray) (zs : List Int) (w : World) (h0 : InRow w a0 l0 c0 (ss.map Value.string)) (hs : Small ss) (h2 : InRow w a2 l2 c2 (zs.map (Value.int .u32))) (hz : ∀ z ∈ zs, (Lit.int .u32 z).wf = true) (hp : SizeP l0 l1 l2) :
    Calls Tryf.prog 7 #[.slice a0 l0 c0, .slice a1 l1 c1, .slice a2 l2 c2] w (Ans (DomP ss zs l0 l1) w) := by
  obtain ⟨p0, p1, p2⟩ := hp
  have hlen := h0.len
  have hlen2 := h2.len
  rw [List.length_map] at hlen hlen2
  have H0 := Lib.hid h0
  have HS := Lib.hid hs
  have H2 := Lib.hid h2
  have HZ := Lib.hid hz
  have HL := Lib.hid (And.intro hlen hlen2)
  clear h0 hs h2 hz hlen hlen2
  by_cases he : l1 = l0
  rotate_left
  · have hne : ((l1 : Int) != (l0 : Int)) = true := by rw [bne_iff_ne]; omega
    have he' : l1 < l0 ∨ l0 < l1 := by omega
    clear he
    go_enter Tryf.func7, Tryf.ntmps7
    go_wp2_with fail
    go_ret
    exact ⟨_, rfl, rfl, fun h => by cases h⟩
  subst he
  go_enter Tryf.func7, Tryf.ntmps7
  go_upto_block 0 with fail
  go_cut [] (fun wx => Into zs l1 ∧ w = wx)
  case first =>
    go_wp2_with fail
    go_loop [7] (fun s7 => DomRel1 zs l1 l2 s7) (fun s7 => l2 - (intOf s7).toNat)
    case atStart => exact ⟨0, Nat.zero_le _, rfl, fun i z hi => by omega⟩
    case round =>
      obtain ⟨k, hk, rfl, hin⟩ := hrel
      have HI := Lib.hid hin
      clear hin
      by_cases hlt : k < l2
      · obtain ⟨x, z, rfl, hzk, hc⟩ := H2.out.get hlt
        obtain ⟨z0, z1⟩ := bounds_u32 (HZ.out z (List.mem_of_getElem? hzk))
        have HK := Lib.hid hzk
        clear hzk
        go_wp2_with fail
        all_goals first
          | (go_ret; exact ⟨_, rfl, rfl, fun h => by cases h⟩)
          | skip
        go_round
        case rel => exact ⟨k + 1, by omega, by go_num, HI.out.next HK.out (by omega)⟩
        case measure => simp [intOf]; omega
      · have hall := HI.out.all (by have := HL.out.2; omega)
        go_wp2_with fail
        go_meet
        exact ⟨hall, rfl⟩
  case rest =>
    obtain ⟨hall, hwe⟩ := hcut
    obtain rfl : w = wc := hwe
    have HA := Lib.hid hall
    clear hall
    go_wp2_with fail
    go_loop [8, 9] (fun s8 s9 => DomRel2 ss zs l2 s8 s9) (fun _ s9 => l2 - (intOf s9).toNat)
    case atStart => exact ⟨0, 0, Nat.zero_le _, rfl, rfl, by omega, by simp [unfoldSize]⟩
    case round =>
      obtain ⟨k, n, hk, rfl, rfl, hn, hu⟩ := hrel
      have HU := Lib.hid hu
      clear hu
      by_cases hlt : k < l2
      · obtain ⟨x, z, rfl, hzk, hc⟩ := H2.out.get hlt
        obtain ⟨z0, z1⟩ := bounds_u32 (HZ.out z (List.mem_of_getElem? hzk))
        have hzl := HA.out z (List.mem_of_getElem? hzk)
        obtain ⟨y, s, rfl, hsk, hcs⟩ := H0.out.get hzl
        have hsz := HS.out s (List.mem_of_getElem? hsk)
        have HK := Lib.hid (unfold_next hzk hsk)
        have hz3 : z < (l1 : Int) := by omega
        obtain ⟨m, hm, hmm⟩ : ∃ m : Nat, (n : Int) + ((s.size : Int) + 8) = (m : Int) ∧ m = n + (s.size + 8) := ⟨n + (s.size + 8), by omega, rfl⟩
        have HM := Lib.hid hmm
        have hmb : m ≤ 4194304 := by omega
        clear hzk hsk hmm
        go_wp2_with fail
        all_goals first
          | (go_ret; exact ⟨_, rfl, rfl, fun h => by cases h⟩)
          | skip
        clear hm
        go_round
        case rel => exact ⟨k + 1, m, by omega, by go_num, by go_num, by omega, by rw [HK.out, HM.out, HU.out]⟩
        case measure => simp [intOf]; omega
      · go_wp2_with fail
        go_ret
        refine ⟨_, rfl, rfl, fun _ => ⟨rfl, HA.out, ?_⟩⟩
        have h1 := HU.out
        rw [List.take_of_length_le (by have := HL.out.2; simp [nat]; omega)] at h1
        omega

end Go.Proofs.YtejdbjfniepomaaFmt
