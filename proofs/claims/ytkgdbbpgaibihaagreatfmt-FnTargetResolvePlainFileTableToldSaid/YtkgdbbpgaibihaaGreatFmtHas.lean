/-
  The contract of zzHasByte (github.com/evanw/esbuild/n011_278): whether a byte stands in a text; conditions: the size that it names.
-/
import Derived.Test.YtkgdbbpgaibihaaGreatFmtRows
import Derived.Test.YtkgdbbpgaibihaaGreatFmtStr
import Derived.WalkKit
import Derived.WalkSpells
import Derived.WalkLawsBesides
namespace Go.Proofs.YtkgdbbpgaibihaaGreatFmt
open Go.RowKit

theorem byte_eq {a b : UInt8} (h : ((a.toNat : Int) == (b.toNat : Int)) = true) : a = b := UInt8.toNat_inj.1 (by rw [beq_iff_eq] at h; omega)
theorem byte_ne {a b : UInt8} (h : ((a.toNat : Int) == (b.toNat : Int)) = false) : a ≠ b := fun e => by subst e; simp at h
theorem getElem_mem' (s : ByteArray) (k : Nat) (h : k < s.size) : s[k] ∈ s.data.toList := by
  have := Lib.data_getElem? s k h
  exact List.mem_of_getElem? this
theorem mem_take_succ (s : ByteArray) (k : Nat) (h : k < s.size) (c : UInt8) : c ∈ s.data.toList.take (k + 1) ↔ c ∈ s.data.toList.take k ∨ c = s[k] := by
  have h' : k < s.data.toList.length := by rw [← Lib.size_eq]; exact h
  have e : s.data.toList[k] = s[k] := rfl
  rw [List.take_succ_eq_append_getElem h', List.mem_append, List.mem_singleton, e]
def memB (l : List UInt8) (c : UInt8) : Bool := decide (c ∈ l)
theorem memB_no {l : List UInt8} {c : UInt8} (h : c ∉ l) : memB l c = false := decide_eq_false h
theorem memB_yes {l : List UInt8} {c : UInt8} (h : c ∈ l) : memB l c = true := decide_eq_true h
theorem memB_not {l : List UInt8} {c : UInt8} (h : memB l c = false) : c ∉ l := of_decide_eq_false h

set_option maxHeartbeats 400000 in
theorem hasByte_any (s : ByteArray) (c : UInt8) (w : World) (hs : s.size ≤ 1099511627776) :
    Calls Tryz.prog 6 #[.string s, .int .u8 c.toNat] w fun e w' => e = .returned (.bool (memB s.data.toList c)) ∧ w = w' := by
  go_enter Tryz.func6, Tryz.ntmps6
  go_wp2
  go_loop [5] (fun i => ∃ k : Nat, k ≤ s.size ∧ i = .int .i64 k ∧ c ∉ s.data.toList.take k) (fun i => s.size - (intOf i).toNat)
  case atStart => exact ⟨0, Nat.zero_le _, rfl, by simp⟩
  case round =>
    obtain ⟨k, hk, rfl, hno⟩ := hrel
    have HN := Lib.hid hno
    clear hno
    by_cases hlt : k < s.size
    · go_wp2
      · have hc : ((s[k].toNat : Int) == (c.toNat : Int)) = true := by assumption
        go_ret
        exact ⟨ret_bool (memB_yes (byte_eq hc ▸ getElem_mem' s k hlt)).symm, rfl⟩
      · have hc : ((s[k].toNat : Int) == (c.toNat : Int)) = false := by assumption
        refine ⟨⟨k + 1, by omega, by go_num, ?_⟩, by simp [intOf]; omega⟩
        rw [mem_take_succ s k hlt]
        rintro (h | h)
        · exact HN.out h
        · exact byte_ne hc h.symm
    · go_wp2
      go_ret
      refine ⟨ret_bool (memB_no ?_).symm, rfl⟩
      have := HN.out
      rwa [List.take_of_length_le (by rw [← Lib.size_eq]; omega)] at this

end Go.Proofs.YtkgdbbpgaibihaaGreatFmt
