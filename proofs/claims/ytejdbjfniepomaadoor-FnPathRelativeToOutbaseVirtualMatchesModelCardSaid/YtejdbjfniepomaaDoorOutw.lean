/-
  The contracts of PathRelativeToOutbase at a path outside the file system, and of its shims; conditions: what the listed tables hold, the sizes.
-/
import Derived.Test.YtejdbjfniepomaaDoorSanw
import Derived.Test.YtejdbjfniepomaaDoorPip
import Derived.Laws.Tables
namespace Go.Proofs.YtejdbjfniepomaaDoor
open Go.RowKit

def IDX : List UInt8 := [105, 110, 100, 101, 120]
def OutEnd (t : ByteArray) (av : Bool) (w : World) (e : Ending) (w' : World) : Prop :=
  (∃ b : ByteArray, e = .returned (.tuple #[.string ⟨#[47]⟩, .string (S (san b.data.toList))]) ∧ b.size ≤ t.size ∧ (Cov t.data.toList → ¬ (av = true ∧ stemL t.data.toList = IDX) → b = S (stemL t.data.toList))) ∧ Below w.heap.size w w'

theorem wp_built {P : Program} {o : Oper} {a : Act} {w : World} {K : Act → World → Prop} {Q : Exit → Act → World → Prop} (t : TypeId) (parts : Array (Nat × Operand)) (ho : o.op = .build t parts) (cells : Array Value)
    (hrun : (Instr.build t (parts.map fun (i, x) => (i, a.eval x))).run P w = .ok (.agg cells) w)
    (h : K (a.put o.dst (.agg cells)) w) : o.wp P a w K Q := by
  unfold Oper.wp execOp
  simp only [ho, Sem.run_bind, hrun, Result.andThen_ok]
  exact h
theorem built109 : (Tryd.prog.built 109 []).map (·.size) = some 102 := by kernel_rfl
theorem b109 : ∃ cells, Tryd.prog.built 109 [] = some cells := by
  have h := built109
  cases hb : Tryd.prog.built 109 [] with
  | none => rw [hb] at h; cases h
  | some c => exact ⟨c, rfl⟩

set_option maxHeartbeats 8000000 in
set_option maxRecDepth 100000 in
theorem out_any (p q : Nat) (t ns : ByteArray) (av : Bool) (w : World) (hT : Tabs w) (ht : t.size ≤ 4194304) (h0 : w.cell? ⟨p, 10, none⟩ = some (.string t)) (h1 : w.cell? ⟨p, 11, none⟩ = some (.string ns)) (hn : (ns.toList == [102, 105, 108, 101]) = false) :
    Calls Tryd.prog 13 #[.pointer (some ⟨p, 0, none⟩), .pointer (some ⟨q, 0, none⟩), .nilIface, .bool av, .string ⟨#[]⟩] w (OutEnd t av w) := by
  have hn2 : (ns.toList != [102, 105, 108, 101]) = true := by unfold bne; rw [hn]; rfl
  have HT := Lib.hid hT
  clear hT
  have h10 := h0
  go_enter Tryd.func13, Tryd.ntmps13
  have hlt := World.block_lt_of_cell? w _ h0
  go_wp2_with fail
  refine (pip_any t _ HT.out ht).mono ?_
  rintro e w1 ⟨⟨d, b, x, rfl, hd, hb, hcov⟩, hb1⟩
  have HC := Lib.hid hcov
  have HB := Lib.hid hb1
  clear hcov hb1 h0 h1 h10
  cases av
  · go_wp2_with fail
    refine (sanitize_any b _ (by omega)).mono ?_
    rintro e w2 ⟨rfl, hb2⟩
    go_wp2_with fail
    go_ret2
    exact ⟨⟨b, rfl, hb, fun h _ => HC.out h⟩, HB.out.trans (hb2.mono HB.out.size)⟩
  · cases hI : (b.toList == [105, 110, 100, 101, 120])
    · go_wp2_with fail
      refine (sanitize_any b _ (by omega)).mono ?_
      rintro e w2 ⟨rfl, hb2⟩
      go_wp2_with fail
      go_ret2
      exact ⟨⟨b, rfl, hb, fun h _ => HC.out h⟩, HB.out.trans (hb2.mono HB.out.size)⟩
    · go_wp2_with fail
      refine (pip_any d _ (HT.out.up HB.out) (by omega)).mono ?_
      rintro e w2 ⟨⟨d2, b2, x2, rfl, hd2, hb22, hcov2⟩, hb2⟩
      have HB2 := Lib.hid (HB.out.trans (hb2.mono HB.out.size))
      clear hcov2 hb2
      go_wp2_with fail
      refine (sanitize_any b2 _ (by omega)).mono ?_
      rintro e w3 ⟨rfl, hb3⟩
      go_wp2_with fail
      go_ret2
      refine ⟨⟨b2, rfl, by omega, fun h hno => ?_⟩, HB2.out.trans (hb3.mono HB2.out.size)⟩
      refine absurd ⟨rfl, ?_⟩ hno
      have e := HC.out h
      rw [e, S_toList] at hI
      exact beq_iff_eq.1 hI

set_option maxHeartbeats 4000000 in
set_option maxRecDepth 100000 in
theorem virt_any (t ns : ByteArray) (av : Bool) (w : World) (hT : Tabs w) (ht : t.size ≤ 4194304) (hn : (ns.toList == [102, 105, 108, 101]) = false) :
    Calls Tryd.prog 7 #[.string t, .string ns, .bool av] w (OutEnd t av w) := by
  obtain ⟨cells, hcb⟩ := b109
  have hbd := fun wx => run_build (P := Tryd.prog) wx 109 #[] cells hcb
  have HI := Lib.hid hbd
  have HT := Lib.hid hT
  clear hbd hcb hT
  go_enter Tryd.func7, Tryd.ntmps7
  go_wp2_with fail
  rename_i aK
  refine wp_built 109 #[] rfl cells (by simp only [List.map_toArray, List.map_nil]; exact HI.out _) ?_
  refine aK _ _ ?_
  clear aK
  go_wp2_with fail
  refine (out_any w.heap.size (w.heap.size + 1) t ns av _ (HT.out.up (((Below.refl _ _).alloc (Nat.le_refl _) _).alloc (by simp) _)) ht (by go_simp) (by go_simp) hn).mono ?_
  rintro e w2 ⟨⟨b, rfl, hb, hc⟩, hb2⟩
  have hbw : Below w.heap.size w w2 := (((Below.refl _ _).alloc (Nat.le_refl _) _).alloc (by simp) _).trans (hb2.mono (by simp; omega))
  have HC := Lib.hid (And.intro hc hbw)
  clear hc hb2 hbw
  go_wp2_with fail
  go_ret2
  exact ⟨⟨b, rfl, hb, HC.out.1⟩, HC.out.2⟩

set_option maxHeartbeats 400000 in
theorem shim11 (s : ByteArray) (w : World) (hs : s.size ≤ 4194304) : Calls Tryd.prog 11 #[.string s] w fun e w' => e = .returned (.string (S (san s.data.toList))) ∧ Below w.heap.size w w' := by
  go_enter Tryd.func11, Tryd.ntmps11
  go_wp2_with fail
  refine (sanitize_any s _ hs).mono ?_
  rintro e w2 ⟨rfl, hb2⟩
  go_wp2_with fail
  go_ret
  exact ⟨rfl, hb2⟩

set_option maxHeartbeats 1000000 in
theorem forb_yes (r : Int) (w : World) (h : badR r = true) : Calls Tryd.prog 10 #[.int .i32 r] w fun e w' => e = .returned (.bool true) ∧ w = w' := by
  rcases bad_cases h with hlow | rfl | rfl | rfl | rfl | rfl | rfl | rfl
  all_goals (
    clear h
    go_enter Tryd.func10, Tryd.ntmps10
    go_wp2
    go_ret
    exact ⟨rfl, rfl⟩)
set_option maxHeartbeats 1000000 in
theorem forb_no (r : Int) (w : World) (h : badR r = false) : Calls Tryd.prog 10 #[.int .i32 r] w fun e w' => e = .returned (.bool false) ∧ w = w' := by
  obtain ⟨g0, g1, g2, g3, g4, g5, g6, g7⟩ := good_cases h
  clear h
  go_enter Tryd.func10, Tryd.ntmps10
  go_wp2
  go_ret
  exact ⟨rfl, rfl⟩

end Go.Proofs.YtejdbjfniepomaaDoor
