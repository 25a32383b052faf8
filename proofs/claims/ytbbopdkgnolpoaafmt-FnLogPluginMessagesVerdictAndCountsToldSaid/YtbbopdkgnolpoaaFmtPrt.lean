/-
  A row of messages that is laid one by one, and the counts of the law: plain facts (conditions: those that each names).
-/
import Derived.Test.YtbbopdkgnolpoaaFmtRow
import Derived.Test.YtbbopdkgnolpoaaFmtZzl
namespace Go.Proofs.YtbbopdkgnolpoaaFmt
open Go.RowKit

def z0 : Mg := ⟨⟨#[]⟩, none, ⟨#[]⟩, 0⟩
def partM (ms : List Mg) (k j : Nat) : Value := (if j / 8 < k then ms.getD (j / 8) z0 else z0).cells.getD (j % 8) (.bool false)
theorem r8 {P : Nat → Prop} (h0 : P 0) (h1 : P 1) (h2 : P 2) (h3 : P 3) (h4 : P 4) (h5 : P 5) (h6 : P 6) (h7 : P 7) : ∀ r, r < 8 → P r
  | 0, _ => h0 | 1, _ => h1 | 2, _ => h2 | 3, _ => h3 | 4, _ => h4 | 5, _ => h5 | 6, _ => h6 | 7, _ => h7
  | n + 8, h => by omega
theorem part_zero (ms : List Mg) (i : Nat) : (Value.agg #[.slice none 0 0, .string ⟨#[]⟩, .nilIface, .pointer none, .string ⟨#[]⟩, .bool false, .int .u8 0, .int .u8 0]).cells[i % 8]? = some (partM ms 0 i) := by
  unfold partM
  rw [if_neg (by omega)]
  have h : i % 8 < 8 := Nat.mod_lt _ (by decide)
  revert h
  generalize i % 8 = r
  exact r8 (P := fun r => (Value.agg #[.slice none 0 0, .string ⟨#[]⟩, .nilIface, .pointer none, .string ⟨#[]⟩, .bool false, .int .u8 0, .int .u8 0]).cells[r]? = some (z0.cells.getD r (.bool false))) rfl rfl rfl rfl rfl rfl rfl rfl r
theorem part_step {ms : List Mg} {k : Nat} {m : Mg} (hm : ms[k]? = some m) (j : Nat) :
    (if j = k * 8 + 7 then (.int .u8 0 : Value) else if j = k * 8 + 6 then .int .u8 m.kd else if j = k * 8 + 5 then .bool false else if j = k * 8 + 4 then .string m.tx else if j = k * 8 + 3 then .pointer none else if j = k * 8 + 2 then udV m.ud else if j = k * 8 + 1 then .string m.nm else if j = k * 8 then .slice none 0 0 else partM ms k j) = partM ms (k + 1) j := by
  by_cases hj : j / 8 = k
  · obtain ⟨r, hr, rfl⟩ : ∃ r, r < 8 ∧ j = k * 8 + r := ⟨j % 8, Nat.mod_lt _ (by decide), by omega⟩
    unfold partM
    rw [show (k * 8 + r) / 8 = k by omega, show (k * 8 + r) % 8 = r by omega, if_pos (show k < k + 1 by omega), if_neg (show ¬ k < k by omega), List.getD_eq_getElem?_getD (l := ms), hm]
    revert r hr
    refine r8 ?_ ?_ ?_ ?_ ?_ ?_ ?_ ?_ <;> simp [Mg.cells]
  · rw [if_neg (by omega), if_neg (by omega), if_neg (by omega), if_neg (by omega), if_neg (by omega), if_neg (by omega), if_neg (by omega), if_neg (by omega)]
    unfold partM
    by_cases h : j / 8 < k
    · rw [if_pos h, if_pos (by omega)]
    · rw [if_neg h, if_neg (by omega)]
theorem mrow_part {w : World} {g n : Nat} {ms : List Mg} (h : Row w g 33 (n * 8) (partM ms n)) (hn : ms.length = n) : MRow w g ms := fun i m hi j u hu => by
  have hil := (List.getElem?_eq_some_iff.1 hi).1
  have hjl : j < 8 := (List.getElem?_eq_some_iff.1 hu).1
  rw [h.cell (i := i * 8 + j) (by omega)]
  unfold partM
  rw [show (i * 8 + j) / 8 = i by omega, show (i * 8 + j) % 8 = j by omega, if_pos (by omega), List.getD_eq_getElem?_getD (l := ms), hi, List.getD_eq_getElem?_getD, Option.getD_some, hu]
  rfl

/-- The law's messages. -/
def mkM (ss : List ByteArray) (i : Nat) (b : Bool) : Mg := ⟨(ss[i]?).getD ⟨#[]⟩, none, ⟨#[109]⟩, if b then 0 else 1⟩
def mkMs (bs : List Bool) (ss : List ByteArray) : List Mg := bs.mapIdx (mkM ss)
theorem mkMs_len (bs : List Bool) (ss : List ByteArray) : (mkMs bs ss).length = bs.length := by unfold mkMs; rw [List.length_mapIdx]
theorem mkMs_at {bs : List Bool} {ss : List ByteArray} {k : Nat} {b : Bool} (h : bs[k]? = some b) : (mkMs bs ss)[k]? = some (mkM ss k b) := by
  unfold mkMs
  rw [List.getElem?_mapIdx, h]
  rfl
theorem mkMs_plain (bs : List Bool) (ss : List ByteArray) : ∀ m ∈ mkMs bs ss, Plain m := by
  intro m hm
  obtain ⟨i, hi⟩ := List.mem_iff_getElem?.1 hm
  have hl := (List.getElem?_eq_some_iff.1 hi).1
  rw [mkMs_len] at hl
  rw [mkMs_at (List.getElem?_eq_getElem hl)] at hi
  cases hi
  refine ⟨rfl, ?_⟩
  unfold mkM
  simp only
  cases bs[i] <;> simp
def isE (m : Mg) : Bool := m.kd == 0
def named (name : ByteArray) (m : Mg) : Bool := m.nm.toList.isEmpty || m.nm.toList == name.toList
def hasNm (name : ByteArray) (m : Mg) : Bool := m.nm.toList == name.toList
theorem count_next' {ms : List Mg} {k : Nat} {m : Mg} (h : ms[k]? = some m) (p : Mg → Bool) : (ms.take (k + 1)).countP p = (ms.take k).countP p + if p m then 1 else 0 := by
  rw [take_next h, List.countP_append, List.countP_singleton]
theorem count_le (ms : List Mg) (k : Nat) (p : Mg → Bool) : (ms.take k).countP p ≤ k := Nat.le_trans List.countP_le_length (by rw [List.length_take]; omega)
theorem fix_e (name : ByteArray) (m : Mg) : isE (fixM name m) = isE m := by
  unfold fixM isE
  split <;> rfl
theorem fix_n (name : ByteArray) (m : Mg) : hasNm name (fixM name m) = named name m := by
  unfold fixM hasNm named
  by_cases h : m.nm.data.toList = []
  · rw [if_pos h]
    simp [Lib.toList_data, h]
  · rw [if_neg h]
    have : m.nm.toList.isEmpty = false := by
      rw [Lib.toList_data]
      cases hcc : m.nm.data.toList with
      | nil => exact absurd hcc h
      | cons => rfl
    rw [this]
    simp
theorem end_e (name : ByteArray) (ms : List Mg) (ht : Bool) (pb : Nat) (t : ByteArray) : (endM name ms ht pb t).countP isE = ms.countP isE + if ht then 1 else 0 := by
  unfold endM
  rw [List.countP_append, List.countP_map]
  congr 1
  · exact List.countP_congr fun m _ => by rw [Function.comp_apply, fix_e]
  · cases ht <;> simp [isE]
theorem end_n (name : ByteArray) (ms : List Mg) (ht : Bool) (pb : Nat) (t : ByteArray) : (endM name ms ht pb t).countP (hasNm name) = ms.countP (named name) + if ht then 1 else 0 := by
  unfold endM
  rw [List.countP_append, List.countP_map]
  congr 1
  · exact List.countP_congr fun m _ => by rw [Function.comp_apply, fix_n]
  · cases ht <;> simp [hasNm]
theorem end_len (name : ByteArray) (ms : List Mg) (ht : Bool) (pb : Nat) (t : ByteArray) : (endM name ms ht pb t).length = ms.length + if ht then 1 else 0 := by
  unfold endM
  cases ht <;> simp
end Go.Proofs.YtbbopdkgnolpoaaFmt
