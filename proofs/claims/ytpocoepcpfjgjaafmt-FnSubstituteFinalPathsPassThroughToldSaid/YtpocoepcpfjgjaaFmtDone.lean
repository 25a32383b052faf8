/-
  The contract of Joiner.Done on a joiner that holds one text; conditions: the size that it names.
-/
import Derived.Test.YtpocoepcpfjgjaaFmtSub
import Derived.Test.YtpocoepcpfjgjaaFmtRow
import Derived.Lib.LazyBuf
import Derived.Deep.RegionLaw
namespace Go.Proofs.YtpocoepcpfjgjaaFmt
open Go.RowKit

theorem info5 : (Tryf.prog.info? 5).map (fun i => (i.zero, i.size, i.bytes)) = some (some (.int .u8 0), 1, 1) := by kernel_rfl

def Holds (Y : Nat) (s : ByteArray) (w : World) : Prop := ∀ j (hj : j < s.size), w.cell? ⟨Y, j, none⟩ = some (.int .u8 s[j].toNat)
theorem cellUp {w w' : World} {p : Addr} {v : Value} (hb : Below w.heap.size w w') (h : w.cell? p = some v) : w'.cell? p = some v := by
  rw [hb.cell (World.block_lt_of_cell? w _ h), h]

/-- A joiner at g that holds one text, wherever its row lies. -/
def Jd (g : Nat) (s : ByteArray) (w : World) : Prop := ∃ (G cap : Nat) (b : Int), w.cell? ⟨g, 0, none⟩ = some (.slice (some ⟨G, 0, none⟩) 1 cap) ∧ w.cell? ⟨g, 1, none⟩ = some (.slice none 0 0) ∧ w.cell? ⟨g, 2, none⟩ = some (.int .u32 s.size) ∧ w.cell? ⟨g, 3, none⟩ = some (.int .u8 b) ∧
  w.cell? ⟨G, 0, none⟩ = some (.string s) ∧ w.cell? ⟨G, 1, none⟩ = some (.int .u32 0)
def DEnd (s : ByteArray) (w : World) (e : Ending) (w' : World) : Prop := ∃ Y, e = .returned (.slice (some ⟨Y, 0, none⟩) s.size s.size) ∧ Holds Y s w' ∧ Below w.heap.size w w'

set_option maxHeartbeats 4000000 in
set_option maxRecDepth 100000 in
theorem done_any (g : Nat) (s : ByteArray) (w : World) (hJ : Jd g s w) (hs : s.size ≤ 1048576) : Calls Tryf.prog 17 #[.pointer (some ⟨g, 0, none⟩)] w (DEnd s w) := by
  obtain ⟨i0, hi, hz0, hz1, hz2⟩ := info_parts info5
  have HI := Lib.hid (And.intro hi (And.intro hz0 (And.intro hz1 hz2)))
  clear hi hz0 hz1 hz2
  obtain ⟨G, cap, b, c0, c1, c2, c3, d0, d1⟩ := hJ
  have HJ := Lib.hid (And.intro c0 (And.intro c1 (And.intro c2 (And.intro d0 d1))))
  go_enter Tryf.func17, Tryf.ntmps17
  go_wp2_with (at_make; refine wpList_make_full _ rfl (.tmp 42) (.tmp 42) 34 rfl w.heap.size 5 i0 (.int .u8 0) 1 Tryf.underlying34 HI.out.1 HI.out.2.1 HI.out.2.2.1 _ _ _ _ s.size rfl rfl rfl rfl (by rw [HI.out.2.2.2]; omega) (by unfold maxLen; omega) (Nat.le_refl _) ?_; intro w2 hown hgrow; have hb2 : Below w.heap.size w w2 := (Below.refl _ _).grown hgrow (Nat.le_refl _) (fun k hk => by cases hk); replace c0 := cellUp hb2 c0; replace c1 := cellUp hb2 c1; replace d0 := cellUp hb2 d0; replace d1 := cellUp hb2 d1)
  have r0 : Row w2 w.heap.size 5 (s.size * 1) (fun _ => .int .u8 0) := row_made (size := 1) rfl (by decide) _ (fun i _ => by
    rw [Nat.mod_one]; rfl) hown
  rw [Nat.mul_one] at r0
  have HR := Lib.hid (And.intro r0 hb2)
  have hY := r0.lt
  have hGl : G < w.heap.size := World.block_lt_of_cell? w _ HJ.out.2.2.2.1
  clear c2 c3 hown hgrow r0 hb2
  go_loopw [49] (fun s49 wr => (s49 = .int .i64 0 ∧ wr = w2) ∨ (s49 = .int .i64 1 ∧ Holds w.heap.size s wr ∧ Below w.heap.size w wr)) (fun s49 _ => 1 - (intOf s49).toNat)
  case atStart => exact .inl ⟨rfl, rfl⟩
  case round =>
    rcases hrel with ⟨rfl, rfl⟩ | ⟨rfl, hh, hb⟩
    · have hc1 : ∀ j, j < s.size → ((wr.alloc (Obj.cells #[.string s, .int .u32 0] 148)).cell? ⟨w.heap.size, 0 + j, none⟩).isSome = true := fun j hj => by
        rw [Nat.zero_add, World.cell?_alloc_lt _ _ _ hY, HR.out.1.cell hj]
        rfl
      have hf1 : ∀ j, j < s.size → (wr.alloc (Obj.cells #[.string s, .int .u32 0] 148)).frozen? ⟨w.heap.size, 0 + j, none⟩ = false := fun j _ => (HR.out.1.alloc _).frozen _
      have HCF := Lib.hid (And.intro hc1 hf1)
      have t1 : (0 : Int) ≤ (s.size : Int) := by omega
      have hvl : (List.map (fun x => Value.int IntKind.u8 (x.toNat : Int)) s.data.toList).length = s.size := by rw [List.length_map, ← Lib.size_eq]
      have hH : Holds w.heap.size s ((wr.alloc (Obj.cells #[.string s, .int .u32 0] 148)).drew.setCells w.heap.size 0 (List.map (fun x => Value.int IntKind.u8 (x.toNat : Int)) s.data.toList)) := by
        intro j hj
        have h := World.cell?_setCells_in w.heap.size (List.map (fun x => Value.int IntKind.u8 (x.toNat : Int)) s.data.toList) 0 (wr.alloc (Obj.cells #[.string s, .int .u32 0] 148)).drew (fun i hi => hc1 i (by omega)) j (by omega)
        rw [Nat.zero_add] at h
        rw [h, List.getElem_map]
        rfl
      have hB : Below w.heap.size w ((wr.alloc (Obj.cells #[.string s, .int .u32 0] 148)).drew.setCells w.heap.size 0 (List.map (fun x => Value.int IntKind.u8 (x.toNat : Int)) s.data.toList)) := below_setCells (Nat.le_refl _) _ _ _ (HR.out.2.alloc HR.out.2.size _).drew
      have HHB := Lib.hid (And.intro hH hB)
      clear hc1 hf1 hvl hH hB
      go_wp2_with fail
      go_region_law (refine step_copy_string rfl (.tmp 56) (.tmp 58) 34 9 rfl 5 Tryf.underlying34 Tryf.sizeOf5 w.heap.size 0 s.size s.size (by simp [Act.eval, Act.put]) s (by simp [Act.eval, Act.put]) (Nat.le_refl _) HCF.out.1 HCF.out.2 ?_)
      all_goals (go_wp2_with fail; exact ⟨.inr ⟨by first | rfl | simp, HHB.out.1, HHB.out.2⟩, by simp [intOf]⟩)
    · have c1' := cellUp hb HJ.out.2.1
      have HH := Lib.hid (And.intro hh hb)
      clear hh hb c0 c1 d0 d1
      go_wp2_with fail
      go_loopw [66] (fun s66 wx => s66 = .int .i64 0 ∧ wx = wr) (fun _ _ => 0)
      case atStart => exact ⟨rfl, rfl⟩
      case round =>
        obtain ⟨rfl, rfl⟩ := hrel
        go_wp2_with fail
        go_ret
        exact ⟨w.heap.size, rfl, HH.out⟩

end Go.Proofs.YtpocoepcpfjgjaaFmt
