/-
  The contracts of the shims that make a linker's context and ask it for a path between chunks; conditions: those that each names.
-/
import Derived.Test.YtpocoepcpfjgjaaFmtJoin
import Derived.Laws.Tables
namespace Go.Proofs.YtpocoepcpfjgjaaFmt
open Go.RowKit Go.Extern.Stop Go.Stop Go.Extern

theorem i55 : ∃ i z, Tryf.prog.info? 55 = some i ∧ i.zero = some z := by
  have h : ((Tryf.prog.info? 55).bind (·.zero)).isSome = true := by kernel_rfl
  cases hi : Tryf.prog.info? 55 with
  | none => rw [hi] at h; cases h
  | some i =>
    rw [hi] at h
    obtain ⟨z, hz⟩ := Option.isSome_iff_exists.1 h
    exact ⟨i, z, rfl, hz⟩

theorem built110 (pub : ByteArray) : (Tryf.prog.built 110 [(25, .string pub)]).map (fun c => (c[31]?, c.size)) = some (some (.string pub), 102) := by kernel_rfl
theorem b110 (pub : ByteArray) : ∃ cells, Tryf.prog.built 110 [(25, .string pub)] = some cells ∧ cells[31]? = some (.string pub) := by
  have h := built110 pub
  cases hb : Tryf.prog.built 110 [(25, .string pub)] with
  | none => rw [hb] at h; cases h
  | some c =>
    rw [hb] at h
    have := Option.some.inj h
    exact ⟨c, rfl, (Prod.mk.inj this).1⟩

theorem wp_built {P : Program} {o : Oper} {a : Act} {w : World} {K : Act → World → Prop} {Q : Exit → Act → World → Prop} (t : TypeId) (parts : Array (Nat × Operand)) (ho : o.op = .build t parts) (cells : Array Value)
    (hrun : (Instr.build t (parts.map fun (i, x) => (i, a.eval x))).run P w = .ok (.agg cells) w)
    (h : K (a.put o.dst (.agg cells)) w) : o.wp P a w K Q := by
  unfold Oper.wp execOp
  simp only [ho, Sem.run_bind, hrun, Result.andThen_ok]
  exact h

def Ctx (pub : ByteArray) (c o : Nat) (w : World) : Prop := w.cell? ⟨c, 0, none⟩ = some (.pointer (some ⟨o, 0, none⟩)) ∧ w.cell? ⟨o, 31, none⟩ = some (.string pub)

set_option maxHeartbeats 4000000 in
set_option maxRecDepth 100000 in
theorem ctx_any (pub : ByteArray) (w : World) : Calls Tryf.prog 6 #[.string pub, .slice none 0 0] w fun e w' => (∃ c o, e = .returned (.pointer (some ⟨c, 0, none⟩)) ∧ Ctx pub c o w') ∧ Below w.heap.size w w' := by
  obtain ⟨i0, z, hi, hz⟩ := i55
  obtain ⟨cells, hcb, hc31⟩ := b110 pub
  have hbd := fun wx => run_build (P := Tryf.prog) wx 110 #[(25, .string pub)] cells hcb
  have HI := Lib.hid (And.intro hi (And.intro hz (And.intro hc31 hbd)))
  clear hcb hc31 hbd
  clear hi hz
  go_enter Tryf.func6, Tryf.ntmps6
  go_wp2_with (at_make; refine wpList_make_own _ rfl (.tmp 8) (.tmp 8) 41 rfl w.heap.size 55 i0 z i0.size Tryf.underlying41 HI.out.1 HI.out.2.1 rfl _ _ _ 0 rfl rfl (by rfl) (by simp) (by unfold maxLen; omega) (Nat.le_refl _) ?_; intro w2 hown hgrow)
  have hb2 : Below w.heap.size w w2 := (Below.refl _ _).grown hgrow (Nat.le_refl _) (fun k hk => by cases hk)
  have HB := Lib.hid hb2
  clear hown hgrow hb2
  go_loopw [6] (fun s6 wx => s6 = .int .i64 0 ∧ wx = w2) (fun _ _ => 0)
  case atStart => exact ⟨rfl, rfl⟩
  case round =>
    obtain ⟨rfl, rfl⟩ := hrel
    go_wp2_with fail
    rename_i aK
    refine wp_built 110 #[(25, .tmp 24)] rfl cells (by simp only [List.map_toArray, List.map_cons, List.map_nil]; exact HI.out.2.2.2 _) ?_
    refine aK _ _ ?_
    clear aK
    go_wp2_with fail
    go_ret
    refine ⟨⟨wr.heap.size + 1, wr.heap.size, rfl, ?_, ?_⟩, (HB.out.alloc HB.out.size _).alloc (by have := HB.out.size; simp; omega) _⟩
    · rw [show wr.heap.size + 1 = (wr.alloc (Obj.cells cells 110)).heap.size from (World.size_alloc wr _).symm]
      exact (Lib.cell_of_heap (heap_alloc_new _ _) 0).trans rfl
    · rw [World.cell?_alloc_lt _ _ _ (by simp)]
      exact (Lib.cell_of_heap (heap_alloc_new wr _) 31).trans HI.out.2.2.1

set_option maxHeartbeats 1000000 in
set_option maxRecDepth 100000 in
theorem between_any (pub dir to : ByteArray) (sl : List UInt8) (c o : Nat) (w : World) (hc : Ctx pub c o w) (hne : pub.toList.isEmpty = false)
    (hj : Calls Tryf.prog 23 #[.string pub, .string to] w (JEnd pub sl to.data.toList w)) :
    Calls Tryf.prog 10 #[.pointer (some ⟨c, 0, none⟩), .string dir, .string to] w (JEnd pub sl to.data.toList w) := by
  have H := Lib.hid hj
  obtain ⟨c0, c31⟩ := hc
  clear hj
  go_enter Tryf.func10, Tryf.ntmps10
  go_wp2_with (first | (go_at_call 23; refine H.out.mono ?_; rintro e w1 ⟨r, rfl, h1, h2, h3⟩) | go_in)
  go_ret
  refine ⟨r, ?_, h1, h2, h3⟩
  rw [List.append_assoc]
  rfl

end Go.Proofs.YtpocoepcpfjgjaaFmt
