/-
  The contracts of the law's own helpers: has a byte, is ASCII, the ASCII model, the size guards; conditions: the sizes that each names.
-/
import Derived.Test.YtkkekdmkepkkoaaDoorRepl
import Derived.Test.YtkkekdmkepkkoaaDoorRow
import Derived.Laws.IdiomStrings
import Derived.Lib.BufferRead
namespace Go.Proofs.YtkkekdmkepkkoaaDoor
open Go.RowKit

set_option maxHeartbeats 400000 in
theorem zz5_yes (s : ByteArray) (w : World) (hs : s.size ≤ 1048576) : Calls Tryd.prog 5 #[.string s] w fun e w' => e = .returned (.bool true) ∧ w = w' := by
  go_enter Tryd.func5, Tryd.ntmps5
  go_wp2
  go_ret
  exact ⟨rfl, rfl⟩
set_option maxHeartbeats 400000 in
theorem zz5_no (s : ByteArray) (w : World) (hs : 1048576 < s.size) : Calls Tryd.prog 5 #[.string s] w fun e w' => e = .returned (.bool false) ∧ w = w' := by
  go_enter Tryd.func5, Tryd.ntmps5
  go_wp2
  go_ret
  exact ⟨rfl, rfl⟩
set_option maxHeartbeats 400000 in
theorem zz8_yes (s : ByteArray) (w : World) (hs : s.size ≤ 1048576) : Calls Tryd.prog 8 #[.string s] w fun e w' => e = .returned (.bool true) ∧ w = w' := by
  go_enter Tryd.func8, Tryd.ntmps8
  go_wp2
  go_ret
  exact ⟨rfl, rfl⟩
set_option maxHeartbeats 400000 in
theorem zz8_no (s : ByteArray) (w : World) (hs : 1048576 < s.size) : Calls Tryd.prog 8 #[.string s] w fun e w' => e = .returned (.bool false) ∧ w = w' := by
  go_enter Tryd.func8, Tryd.ntmps8
  go_wp2
  go_ret
  exact ⟨rfl, rfl⟩

theorem byte_ne (b : UInt8) (h : b ≠ 92) : ((b.toNat : Int) == 92) = false := by
  rw [beq_eq_false_iff_ne]
  intro e
  exact h (UInt8.toNat_inj.1 (by show _ = 92; omega))

set_option maxHeartbeats 1000000 in
set_option maxRecDepth 100000 in
theorem has_none (s : ByteArray) (w : World) (hs : s.size ≤ 1099511627776) (h : (92 : UInt8) ∉ s.data.toList) : Calls Tryd.prog 7 #[.string s, .int .u8 92] w fun e w' => e = .returned (.bool false) ∧ w = w' := by
  go_enter Tryd.func7, Tryd.ntmps7
  go_wp2
  go_loop [5] (fun i => ∃ k : Nat, k ≤ s.size ∧ i = .int .i64 k) (fun i => s.size - (intOf i).toNat)
  case atStart => exact ⟨0, Nat.zero_le _, rfl⟩
  case round =>
    obtain ⟨k, hk, rfl⟩ := hrel
    by_cases hlt : k < s.size
    · have hb := byte_ne s[k] (fun e => h (by rw [← e]; exact List.mem_of_getElem? (Lib.data_getElem? s k hlt)))
      go_wp2
      exact ⟨⟨k + 1, by omega, by go_num⟩, by simp [intOf]; omega⟩
    · go_wp2
      go_ret
      exact ⟨rfl, rfl⟩

set_option maxHeartbeats 1000000 in
set_option maxRecDepth 100000 in
theorem ascii_yes (s : ByteArray) (w : World) (hs : s.size ≤ 1099511627776) (h : ∀ b ∈ s.data.toList, b.toNat < 128) : Calls Tryd.prog 9 #[.string s] w fun e w' => e = .returned (.bool true) ∧ w = w' := by
  have H := Lib.hid h
  clear h
  go_enter Tryd.func9, Tryd.ntmps9
  go_wp2
  go_loop [3] (fun i => ∃ k : Nat, k ≤ s.size ∧ i = .int .i64 k) (fun i => s.size - (intOf i).toNat)
  case atStart => exact ⟨0, Nat.zero_le _, rfl⟩
  case round =>
    obtain ⟨k, hk, rfl⟩ := hrel
    by_cases hlt : k < s.size
    · have hb : s[k].toNat < 128 := H.out _ (List.mem_of_getElem? (Lib.data_getElem? s k hlt))
      go_wp2
      exact ⟨⟨k + 1, by omega, by go_num⟩, by simp [intOf]; omega⟩
    · go_wp2
      go_ret
      exact ⟨rfl, rfl⟩

set_option maxHeartbeats 1000000 in
set_option maxRecDepth 100000 in
theorem ascii_no (s : ByteArray) (w : World) (hs : s.size ≤ 1099511627776) (h : ¬ ∀ b ∈ s.data.toList, b.toNat < 128) : Calls Tryd.prog 9 #[.string s] w fun e w' => e = .returned (.bool false) ∧ w = w' := by
  have H := Lib.hid h
  clear h
  go_enter Tryd.func9, Tryd.ntmps9
  go_wp2
  go_loop [3] (fun i => ∃ k : Nat, k ≤ s.size ∧ i = .int .i64 k ∧ ∀ j b, j < k → s.data.toList[j]? = some b → b.toNat < 128) (fun i => s.size - (intOf i).toNat)
  case atStart => exact ⟨0, Nat.zero_le _, rfl, fun j b hj => absurd hj (by omega)⟩
  case round =>
    obtain ⟨k, hk, rfl, hall⟩ := hrel
    have HA := Lib.hid hall
    clear hall
    by_cases hlt : k < s.size
    · by_cases hb : s[k].toNat < 128
      · go_wp2
        refine ⟨⟨k + 1, by omega, by go_num, fun j b hj hjb => ?_⟩, by simp [intOf]; omega⟩
        by_cases hjk : j = k
        · subst hjk
          rw [Lib.data_getElem? s j hlt] at hjb
          obtain rfl := Option.some.inj hjb
          exact hb
        · exact HA.out j b (by omega) hjb
      · go_wp2
        go_ret
        exact ⟨rfl, rfl⟩
    · exfalso
      refine H.out fun b hb => ?_
      obtain ⟨j, hj⟩ := List.mem_iff_getElem?.1 hb
      have hjl := (List.getElem?_eq_some_iff.1 hj).1
      rw [← Lib.size_eq] at hjl
      exact HA.out j b (by omega) hj

def mdl (c : UInt8) : UInt8 := if 65 ≤ c.toNat ∧ c.toNat ≤ 90 then c + 32 else if c = 92 then 47 else c
def upto (m : List UInt8) (k j : Nat) : Value := if j < k then .int .u8 ((m.getD j 0).toNat : Int) else .int .u8 0
theorem upto_next {m : List UInt8} {k : Nat} {u : UInt8} {z : Int} (hz : z = (u.toNat : Int)) (hu : m[k]? = some u) (j : Nat) : (if j = k then .int .u8 z else upto m k j) = upto m (k + 1) j := by
  unfold upto
  by_cases e : j = k
  · subst e
    rw [if_pos rfl, if_pos (by omega), List.getD_eq_getElem?_getD, hu, hz]
    rfl
  · rw [if_neg e]
    by_cases h : j < k
    · rw [if_pos h, if_pos (by omega)]
    · rw [if_neg h, if_neg (by omega)]
theorem row_bytes {w : World} {g n : Nat} {t : TypeId} {m : List UInt8} (h : Row w g t n (upto m n)) (hn : m.length = n) : ∀ j (hj : j < m.length), w.cell? ((⟨g, 0, none⟩ : Addr).add j) = some (.int .u8 (m[j].toNat : Int)) := by
  intro j hj
  rw [Addr.add_lit, Nat.zero_add, h.cell (show j < n by omega)]
  unfold upto
  rw [if_pos (by omega), List.getD_eq_getElem?_getD, List.getElem?_eq_getElem hj]
  rfl

theorem info5 : (Tryd.prog.info? 5).map (fun i => (i.zero, i.size, i.bytes)) = some (some (.int .u8 0), 1, 1) := by kernel_rfl

def MRel (l : List UInt8) (n : Nat) (w : World) (k : Nat) (wr : World) : Prop := Row wr w.heap.size 5 n (upto (l.map mdl) k) ∧ Below w.heap.size w wr

set_option maxHeartbeats 2000000 in
set_option maxRecDepth 100000 in
theorem model_any (s : ByteArray) (w : World) (hs : s.size ≤ 1048576) : Calls Tryd.prog 10 #[.string s] w fun e w' => e = .returned (.string (S (s.data.toList.map mdl))) ∧ Below w.heap.size w w' := by
  obtain ⟨i0, hi, hz0, hz1, hz2⟩ := info_parts info5
  have HI := Lib.hid (And.intro hi (And.intro hz0 (And.intro hz1 hz2)))
  clear hi hz0 hz1 hz2
  have hcv := fun (wx : World) (l : List UInt8) (a : Addr) (cap : Nat) hc => run_convert_bytes_back (P := Tryd.prog) wx 25 9 5 a cap l Tryd.underlying25 Tryd.underlying5 Tryd.underlying9 hc
  have HV := Lib.hid hcv
  clear hcv
  go_enter Tryd.func10, Tryd.ntmps10
  go_wp2_with (at_make; refine wpList_make_full _ rfl (.tmp 7) (.tmp 7) 25 rfl w.heap.size 5 i0 (.int .u8 0) 1 Tryd.underlying25 HI.out.1 HI.out.2.1 HI.out.2.2.1 _ _ _ _ s.size rfl rfl rfl rfl (by rw [HI.out.2.2.2]; omega) (by unfold maxLen; omega) (Nat.le_refl _) ?_; intro w2 hown hgrow)
  have r0 : Row w2 w.heap.size 5 (s.size * 1) (upto (s.data.toList.map mdl) 0) := row_made (size := 1) rfl (by decide) _ (fun i _ => by
    rw [Nat.mod_one]; rfl) hown
  rw [Nat.mul_one] at r0
  have hb2 : Below w.heap.size w w2 := (Below.refl _ _).grown hgrow (Nat.le_refl _) (fun k hk => by cases hk)
  have HR := Lib.hid (And.intro r0 hb2)
  clear r0 hb2 hown hgrow
  go_loopw [4] (fun s4 wr => ∃ k : Nat, k ≤ s.size ∧ s4 = .int .i64 k ∧ MRel s.data.toList s.size w k wr) (fun s4 _ => s.size - (intOf s4).toNat)
  case atStart => exact ⟨0, Nat.zero_le _, rfl, HR.out⟩
  case round =>
    obtain ⟨k, hk, rfl, hr, hb⟩ := hrel
    have HRB := Lib.hid (And.intro hr hb)
    by_cases hlt : k < s.size
    · have hu : (s.data.toList.map mdl)[k]? = some (mdl s[k]) := by rw [List.getElem?_map, Lib.data_getElem? s k hlt]; rfl
      have c0 := hr.cell hlt
      have f0 := hr.frozen k
      have hrl := hr.lt
      have HU := Lib.hid hu
      clear hu hr hb
      have h256 : s[k].toNat < 256 := s[k].toNat_lt
      by_cases h1 : 65 ≤ s[k].toNat
      · by_cases h2 : s[k].toNat ≤ 90
        · have hm : ((s[k].toNat : Int) + 32) = ((mdl s[k]).toNat : Int) := by
            unfold mdl
            rw [if_pos ⟨h1, h2⟩, UInt8.toNat_add]
            have : (32 : UInt8).toNat = 32 := rfl
            omega
          go_wp2_with fail
          go_roundw
          case rel => exact ⟨k + 1, by omega, by go_num, (HRB.out.1.set k _).congr (fun j _ => upto_next (by first | rfl | exact hm) HU.out j), HRB.out.2.setCell (p := ⟨w.heap.size, k, none⟩) (Nat.le_refl _) _⟩
          case measure => simp [intOf]; omega
        · cases h92 : ((s[k].toNat : Int) == 92)
          · have hm : (s[k].toNat : Int) = ((mdl s[k]).toNat : Int) := by
              unfold mdl
              rw [if_neg (fun h => h2 h.2), if_neg (fun e => by rw [e] at h92; exact absurd h92 (by decide))]
            go_wp2_with fail
            go_roundw
            case rel => exact ⟨k + 1, by omega, by go_num, (HRB.out.1.set k _).congr (fun j _ => upto_next (by first | rfl | exact hm) HU.out j), HRB.out.2.setCell (p := ⟨w.heap.size, k, none⟩) (Nat.le_refl _) _⟩
            case measure => simp [intOf]; omega
          · have hm : (47 : Int) = ((mdl s[k]).toNat : Int) := by
              have he : s[k] = 92 := UInt8.toNat_inj.1 (by rw [beq_iff_eq] at h92; show _ = 92; omega)
              rw [he]
              rfl
            go_wp2_with fail
            go_roundw
            case rel => exact ⟨k + 1, by omega, by go_num, (HRB.out.1.set k _).congr (fun j _ => upto_next (by first | rfl | exact hm) HU.out j), HRB.out.2.setCell (p := ⟨w.heap.size, k, none⟩) (Nat.le_refl _) _⟩
            case measure => simp [intOf]; omega
      · have h92 : ((s[k].toNat : Int) == 92) = false := by rw [beq_eq_false_iff_ne]; omega
        have hm : (s[k].toNat : Int) = ((mdl s[k]).toNat : Int) := by
          unfold mdl
          rw [if_neg (fun h => h1 h.1), if_neg (fun e => by rw [e] at h92; exact absurd h92 (by decide))]
        go_wp2_with fail
        go_roundw
        case rel => exact ⟨k + 1, by omega, by go_num, (HRB.out.1.set k _).congr (fun j _ => upto_next (by first | rfl | exact hm) HU.out j), HRB.out.2.setCell (p := ⟨w.heap.size, k, none⟩) (Nat.le_refl _) _⟩
        case measure => simp [intOf]; omega
    · obtain rfl : k = s.size := by omega
      have hlen : (s.data.toList.map mdl).length = s.size := by rw [List.length_map, ← Lib.size_eq]
      have hcv := HV.out wr (s.data.toList.map mdl) ⟨w.heap.size, 0, none⟩ s.size (row_bytes hr hlen)
      rw [hlen] at hcv
      clear hr hb
      go_wp2_with fail
      go_ret
      exact ⟨rfl, HRB.out.2⟩

end Go.Proofs.YtkkekdmkepkkoaaDoor
