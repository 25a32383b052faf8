/-
  The contracts of b2Lower and of the test of seven bytes; conditions: the sizes that each names.
-/
import Derived.Test.YtalnapcphdmjaaaDoorZz
namespace Go.Proofs.YtalnapcphdmjaaaDoor
open Go.RowKit

set_option maxHeartbeats 400000 in
theorem b2low_any (b : UInt8) (w : World) : Calls Tryd.prog 23 #[.int .u8 b.toNat] w fun e w' => e = .returned (.int .u8 (lowN b).toNat) ∧ w = w' := by
  have hb := b.toNat_lt
  go_enter Tryd.func23, Tryd.ntmps23
  by_cases h1 : 65 ≤ b.toNat
  · by_cases h2 : b.toNat ≤ 90
    · go_wp2
      go_ret
      refine ⟨ret_int ?_, rfl⟩
      unfold lowN
      rw [if_pos ⟨h1, h2⟩, UInt8.toNat_add, show (32 : UInt8).toNat = 32 from rfl]
      omega
    · go_wp2
      go_ret
      refine ⟨ret_int ?_, rfl⟩
      unfold lowN
      rw [if_neg (fun h => h2 h.2)]
  · go_wp2
    go_ret
    refine ⟨ret_int ?_, rfl⟩
    unfold lowN
    rw [if_neg (fun h => h1 h.1)]

theorem beq_byte {b c : UInt8} (h : ((b.toNat : Int) == (c.toNat : Int)) = true) : b = c := UInt8.toNat_inj.1 (by rw [beq_iff_eq] at h; omega)
theorem nbeq_byte {b c : UInt8} (h : ((b.toNat : Int) == (c.toNat : Int)) = false) : b ≠ c := fun e => by subst e; simp at h
theorem closes_yes (s : ByteArray) (i : Nat) (hl : i + 7 ≤ s.size) (h0 : s[i] = 60) (h1 : s[i + 1] = 47) (h2 : lowN s[i + 2] = 115) (h3 : lowN s[i + 3] = 116) (h4 : lowN s[i + 4] = 121) (h5 : lowN s[i + 5] = 108) (h6 : lowN s[i + 6] = 101) : closes s i = true := by
  unfold closes
  rw [dif_pos hl, h0, h1, h2, h3, h4, h5, h6]
  rfl
theorem closes_no (s : ByteArray) (i : Nat) (hl : i + 7 ≤ s.size) (h : s[i] ≠ 60 ∨ s[i + 1] ≠ 47 ∨ lowN s[i + 2] ≠ 115 ∨ lowN s[i + 3] ≠ 116 ∨ lowN s[i + 4] ≠ 121 ∨ lowN s[i + 5] ≠ 108 ∨ lowN s[i + 6] ≠ 101) : closes s i = false := by
  unfold closes
  rw [dif_pos hl]
  rcases h with h | h | h | h | h | h | h <;> simp [h]

set_option maxHeartbeats 2000000 in
set_option maxRecDepth 100000 in
theorem closes_any (s : ByteArray) (a : Option Addr) (cap : Nat) (i : Nat) (w : World) (h : InRow w a s.size cap (Lib.byteCells s.data.toList)) (hs : s.size ≤ 1099511627776) (hi : i < s.size) :
    Calls Tryd.prog 17 #[.slice a s.size cap, .int .i64 i] w fun e w' => e = .returned (.bool (closes s i)) ∧ w = w' := by
  by_cases hl : i + 7 ≤ s.size
  · obtain ⟨x, rfl⟩ : ∃ x, a = some x := by
      rcases h with ⟨_, h0, _⟩ | ⟨x, hx, _⟩
      · omega
      · exact ⟨x, hx⟩
    have hc : ∀ (j : Nat) (hj : j < s.size), w.cell? (x.add j) = some (.int .u8 s[j].toNat) := fun j hj => in_cells h j _ (by unfold Lib.byteCells; rw [List.getElem?_map, Lib.data_getElem? s j hj]; rfl)
    have k0 := hc i (by omega)
    have k1 : w.cell? ⟨x.block, x.off + (i + 1), none⟩ = some (.int .u8 s[i + 1].toNat) := hc (i + 1) (by omega)
    have k2 : w.cell? ⟨x.block, x.off + (i + 2), none⟩ = some (.int .u8 s[i + 2].toNat) := hc (i + 2) (by omega)
    have k3 : w.cell? ⟨x.block, x.off + (i + 3), none⟩ = some (.int .u8 s[i + 3].toNat) := hc (i + 3) (by omega)
    have k4 : w.cell? ⟨x.block, x.off + (i + 4), none⟩ = some (.int .u8 s[i + 4].toNat) := hc (i + 4) (by omega)
    have k5 : w.cell? ⟨x.block, x.off + (i + 5), none⟩ = some (.int .u8 s[i + 5].toNat) := hc (i + 5) (by omega)
    have k6 : w.cell? ⟨x.block, x.off + (i + 6), none⟩ = some (.int .u8 s[i + 6].toNat) := hc (i + 6) (by omega)
    clear hc h
    go_enter Tryd.func17, Tryd.ntmps17
    cases h0 : (((s[i]).toNat : Int) == 60)
    · go_wp2_with (first | (go_at_call 23; refine (b2low_any _ _).mono ?_; rintro e w' ⟨rfl, rfl⟩))
      go_ret
      exact ⟨ret_bool (closes_no s i hl (.inl (nbeq_byte h0))).symm, rfl⟩
    · cases h1 : (((s[i + 1]).toNat : Int) == 47)
      · go_wp2_with (first | (go_at_call 23; refine (b2low_any _ _).mono ?_; rintro e w' ⟨rfl, rfl⟩))
        go_ret
        exact ⟨ret_bool (closes_no s i hl (.inr (.inl (nbeq_byte h1)))).symm, rfl⟩
      · cases h2 : (((lowN s[i + 2]).toNat : Int) == 115)
        · go_wp2_with (first | (go_at_call 23; refine (b2low_any _ _).mono ?_; rintro e w' ⟨rfl, rfl⟩))
          go_ret
          exact ⟨ret_bool (closes_no s i hl (.inr (.inr (.inl (nbeq_byte h2))))).symm, rfl⟩
        · cases h3 : (((lowN s[i + 3]).toNat : Int) == 116)
          · go_wp2_with (first | (go_at_call 23; refine (b2low_any _ _).mono ?_; rintro e w' ⟨rfl, rfl⟩))
            go_ret
            exact ⟨ret_bool (closes_no s i hl (.inr (.inr (.inr (.inl (nbeq_byte h3)))))).symm, rfl⟩
          · cases h4 : (((lowN s[i + 4]).toNat : Int) == 121)
            · go_wp2_with (first | (go_at_call 23; refine (b2low_any _ _).mono ?_; rintro e w' ⟨rfl, rfl⟩))
              go_ret
              exact ⟨ret_bool (closes_no s i hl (.inr (.inr (.inr (.inr (.inl (nbeq_byte h4))))))).symm, rfl⟩
            · cases h5 : (((lowN s[i + 5]).toNat : Int) == 108)
              · go_wp2_with (first | (go_at_call 23; refine (b2low_any _ _).mono ?_; rintro e w' ⟨rfl, rfl⟩))
                go_ret
                exact ⟨ret_bool (closes_no s i hl (.inr (.inr (.inr (.inr (.inr (.inl (nbeq_byte h5)))))))).symm, rfl⟩
              · cases h6 : (((lowN s[i + 6]).toNat : Int) == 101)
                · go_wp2_with (first | (go_at_call 23; refine (b2low_any _ _).mono ?_; rintro e w' ⟨rfl, rfl⟩))
                  go_ret
                  exact ⟨ret_bool (closes_no s i hl (.inr (.inr (.inr (.inr (.inr (.inr (nbeq_byte h6)))))))).symm, rfl⟩
                · go_wp2_with (first | (go_at_call 23; refine (b2low_any _ _).mono ?_; rintro e w' ⟨rfl, rfl⟩))
                  go_ret
                  exact ⟨ret_bool (closes_yes s i hl (beq_byte h0) (beq_byte h1) (beq_byte h2) (beq_byte h3) (beq_byte h4) (beq_byte h5) (beq_byte h6)).symm, rfl⟩
  · have hcl : closes s i = false := by unfold closes; rw [dif_neg hl]
    rw [hcl]
    clear h
    go_enter Tryd.func17, Tryd.ntmps17
    go_wp2
    go_ret
    exact ⟨rfl, rfl⟩

end Go.Proofs.YtalnapcphdmjaaaDoor
