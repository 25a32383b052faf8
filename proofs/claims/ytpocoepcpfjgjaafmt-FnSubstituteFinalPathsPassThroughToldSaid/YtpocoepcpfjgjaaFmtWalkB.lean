/-
  The walk of the law on substitution without pieces; conditions: those that each names.
-/
import Derived.Test.YtpocoepcpfjgjaaFmtSubB
namespace Go.Proofs.YtpocoepcpfjgjaaFmt
open Go.RowKit

set_option maxHeartbeats 400000 in
theorem zz5_yes (s : ByteArray) (w : World) (hs : s.size ≤ 1048576) : Calls Tryf.prog 5 #[.string s] w fun e w' => e = .returned (.bool true) ∧ w = w' := by
  go_enter Tryf.func5, Tryf.ntmps5
  go_wp2
  go_ret
  exact ⟨rfl, rfl⟩
set_option maxHeartbeats 400000 in
theorem zz5_no (s : ByteArray) (w : World) (hs : 1048576 < s.size) : Calls Tryf.prog 5 #[.string s] w fun e w' => e = .returned (.bool false) ∧ w = w' := by
  go_enter Tryf.func5, Tryf.ntmps5
  go_wp2
  go_ret
  exact ⟨rfl, rfl⟩

set_option maxHeartbeats 4000000 in
set_option maxRecDepth 100000 in
theorem fnSubstituteFinalPathsPassThrough_walk (s : ByteArray) (w : World) (_ : s.size ≤ maxLen) :
    Calls Tryf.prog 3 #[.string s] w fun e w' => e = .returned (.bool true) ∧ Below w.heap.size w w' := by
  by_cases hs : s.size ≤ 1048576
  · have hcv := fun (wx : World) (Y : Nat) (h : Holds Y s wx) => run_convert_bytes_back (P := Tryf.prog) wx 34 9 5 ⟨Y, 0, none⟩ s.size s.data.toList Tryf.underlying34 Tryf.underlying5 Tryf.underlying9 (fun j hj => by
      rw [Addr.add_lit, Nat.zero_add]
      exact h j (by rw [Lib.size_eq]; exact hj))
    have hcv2 : ∀ (wx : World) (Y : Nat), Holds Y s wx → (convert 34 9 (.slice (some ⟨Y, 0, none⟩) s.size s.size)).run Tryf.prog wx = .ok (.string s) wx := fun wx Y h => by
      have := hcv wx Y h
      rw [← Lib.size_eq] at this
      rw [this]
    have HC := Lib.hid hcv2
    clear hcv hcv2
    go_enter Tryf.func3, Tryf.ntmps3
    go_wp2_with (go_at_call 5; refine (zz5_yes _ _ hs).mono ?_; rintro e w' ⟨rfl, rfl⟩)
    refine (ctx_any ⟨#[47]⟩ _).mono ?_
    rintro e w1 ⟨⟨c, o, rfl, _⟩, hb1⟩
    go_wp2_with fail
    refine (out_any s w1 hs).mono ?_
    rintro e w2 ⟨⟨G, cap, b, rfl, d0, d1⟩, hb2⟩
    have hGl := World.block_lt_of_cell? w2 _ d0
    have hb12 := hb1.trans (hb2.mono hb1.size)
    have HB := Lib.hid hb12
    clear hb1 hb2 hb12
    go_wp2_with fail
    have hd : ∀ X, (w2.alloc X).cell? ⟨G, 0, none⟩ = some (.string s) ∧ (w2.alloc X).cell? ⟨G, 1, none⟩ = some (.int .u32 0) := fun X => ⟨(World.cell?_alloc_lt _ _ _ hGl).trans d0, (World.cell?_alloc_lt _ _ _ hGl).trans d1⟩
    refine (count_any _ _ s G cap b _ hs (hd _).1 (hd _).2).mono ?_
    rintro e w3 ⟨Y, rfl, hh, hb3⟩
    have hcv := HC.out w3 Y hh
    have hbb := (HB.out.alloc HB.out.size (Obj.cells #[Value.slice none 0 0, Value.slice (some ⟨G, 0, none⟩) 1 cap, Value.slice none 0 0, Value.int IntKind.u32 s.size, Value.int IntKind.u8 b] 32)).trans (hb3.mono (by have := HB.out.size; simp; omega))
    have HBB := Lib.hid hbb
    clear hd hh hb3 hbb
    go_wp2_with fail
    go_ret
    exact ⟨by first | rfl | simp, HBB.out⟩
  · go_enter Tryf.func3, Tryf.ntmps3
    go_wp2_with (go_at_call 5; refine (zz5_no _ _ (by omega)).mono ?_; rintro e w' ⟨rfl, rfl⟩)
    go_ret
    exact ⟨rfl, Below.refl _ _⟩

end Go.Proofs.YtpocoepcpfjgjaaFmt
