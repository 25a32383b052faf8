/-
  The contracts of b2Clone, of the new printer and of the exported road to printIndentedComment; conditions: what the listed tables hold, the sizes that each names.
-/
import Derived.Test.YtalnapcphdmjaaaDoorCmt
import Derived.Test.YtalnapcphdmjaaaDoorRowIn
import Derived.Laws.CopyOwn
import Derived.Deep.Cut
namespace Go.Proofs.YtalnapcphdmjaaaDoor
open Go.RowKit

set_option maxHeartbeats 2000000 in
set_option maxRecDepth 100000 in
theorem new_any (B : Nat) (mini uns : Bool) (lim : Int) (l : List UInt8) (v : Value) (w : World) (hown : w.ownsRow B 5 1 v (Lib.byteCells l).length (Lib.byteCells l)) (hBw : B ≤ w.heap.size) :
    Calls Tryd.prog 15 #[.bool mini, .int .i64 lim, .bool uns, v] w fun e w' => e = .returned (.pointer (some ⟨w.heap.size, 0, none⟩)) ∧ Prn B w.heap.size mini lim (if uns then 64 else 0) l w' ∧ Below B w w' ∧ Below w.heap.size w w' := by
  obtain ⟨ao, n', cap, rfl⟩ : ∃ ao n' cap, v = .slice ao n' cap := by
    rcases hown.2 with ⟨e, _⟩ | ⟨g, cap, cur, e, _⟩ <;> exact ⟨_, _, _, e⟩
  have HO := Lib.hid hown
  clear hown
  cases uns
  · go_enter Tryd.func15, Tryd.ntmps15
    go_wp2
    go_ret
    refine ⟨rfl, ⟨_, _, hBw, heap_alloc_new _ _, rfl, rfl, rfl, rfl, rfl, HO.out.alloc _⟩, (Below.refl _ _).alloc hBw _, (Below.refl _ _).alloc (Nat.le_refl _) _⟩
  · go_enter Tryd.func15, Tryd.ntmps15
    go_wp2
    go_ret
    refine ⟨rfl, ⟨_, _, hBw, heap_alloc_new _ _, rfl, rfl, rfl, rfl, rfl, HO.out.alloc _⟩, (Below.refl _ _).alloc hBw _, (Below.refl _ _).alloc (Nat.le_refl _) _⟩

/-- A row that was made, whole. -/
theorem made_whole {w : World} {B g n : Nat} {zs : List Value} (h : w.ownsRow B 5 1 (.slice (some ⟨g, 0, none⟩) n n) n zs) : w.heap[g]? = some (.cells zs.toArray 5 (0, 0)) := by
  rcases h.2 with ⟨e, _⟩ | ⟨g', cap, cur, hv, _, hh, _, _, hs, ht⟩
  · cases e
  · injection hv with hv1 hv2 hv3
    injection hv1 with hv1
    injection hv1 with hv1
    subst hv1; subst hv3
    rw [hh]
    have : cur.toList = zs := by rw [← ht, List.take_of_length_le (by simp; omega)]
    rw [← this]
theorem owns_whole {w : World} {B g n : Nat} {zs : List Value} (hB : B ≤ g) (hn : n ≤ maxLen) (hz : zs.length = n) (hg : w.heap[g]? = some (.cells zs.toArray 5 (0, 0))) : w.ownsRow B 5 1 (.slice (some ⟨g, 0, none⟩) n n) zs.length zs := by
  refine ⟨by simp, .inr ⟨g, n, zs.toArray, by rw [hz], hB, hg, by omega, hn, by simp [hz], ?_⟩⟩
  rw [List.take_of_length_le (by simp)]

theorem hbl0 {w w2 : World} (hgrow : w.grownBy w2 none) : Below w.heap.size w w2 := (Below.refl _ _).grown hgrow (Nat.le_refl _) (fun k hk => by cases hk)
theorem in_cells {w : World} {x : Addr} {len cap : Nat} {vs : List Value} (h : InRow w (some x) len cap vs) : ∀ j v, vs[j]? = some v → w.cell? (x.add j) = some v := by
  rcases h with ⟨e, _⟩ | ⟨y, hy, _, _, _, h⟩
  · cases e
  · obtain rfl := Option.some.inj hy
    exact h
theorem bytes_one {l : List UInt8} : ∀ v ∈ Lib.byteCells l, v.oneCell' = true := by
  intro v hv
  unfold Lib.byteCells at hv
  obtain ⟨b, _, rfl⟩ := List.mem_map.1 hv
  rfl

def CloneEnd (B : Nat) (l : List UInt8) (w : World) (e : Ending) (w' : World) : Prop := ∃ a len cap, e = .returned (.slice a len cap) ∧ w'.ownsRow B 5 1 (.slice a len cap) (Lib.byteCells l).length (Lib.byteCells l) ∧ Below B w w'

theorem madeLen (n : Nat) : (madeCells (Value.int .u8 0).cells (n * 1)).toList.length = n := by
  simp [madeCells]

set_option maxHeartbeats 2000000 in
set_option maxRecDepth 100000 in
theorem clone_any (B : Nat) (a : Option Addr) (len cap : Nat) (l : List UInt8) (w : World) (h : InRow w a len cap (Lib.byteCells l)) (hl : len ≤ 1099511627776) (hBw : B ≤ w.heap.size) :
    Calls Tryd.prog 8 #[.slice a len cap] w (CloneEnd B l w) := by
  have hlen := h.len
  have q := fun wx (a : Option Addr) (n c : Nat) => Lib.run_eql_slice_nil (P := Tryd.prog) wx 22 5 a n c 0 0 Tryd.underlying22
  cases a with
  | none =>
    obtain ⟨rfl, rfl, hnil⟩ : len = 0 ∧ cap = 0 ∧ Lib.byteCells l = [] := by
      rcases h with ⟨_, h1, h2, h3⟩ | ⟨x, hx, _⟩
      · exact ⟨h1, h2, h3⟩
      · cases hx
    go_enter Tryd.func8, Tryd.ntmps8
    go_wp2
    go_ret
    refine ⟨none, 0, 0, rfl, ?_, Below.refl _ _⟩
    rw [hnil]
    exact World.ownsRow_nil _ _ _ _
  | some x =>
    obtain ⟨i0, hi, hz0, hz1, hz2⟩ := info_parts bld_byte
    have hsz : (Tryd.prog.info? 5).map (·.size) = some 1 := by rw [hi]; simp [hz1]
    have HI := Lib.hid (And.intro hi (And.intro hz0 (And.intro hz1 (And.intro hz2 hsz))))
    have H0 := Lib.hid h
    have HL := Lib.hid hlen
    obtain ⟨Z, hZ⟩ : ∃ Z, (madeCells (Value.int .u8 0).cells (len * 1)).toList = Z := ⟨_, rfl⟩
    have hZL : Z.length = len := by rw [← hZ]; exact madeLen len
    have HZ := Lib.hid (And.intro hZ hZL)
    clear hi hz0 hz1 hz2 hsz h hlen hZ hZL
    go_enter Tryd.func8, Tryd.ntmps8
    go_upto_region 4 with (at_make; refine wpList_make_full _ rfl (.tmp 7) (.tmp 7) 22 rfl B 5 i0 (.int .u8 0) 1 Tryd.underlying22 HI.out.1 HI.out.2.1 HI.out.2.2.1 _ _ _ _ len rfl rfl rfl rfl (by rw [HI.out.2.2.2.1]; omega) (by unfold maxLen; omega) hBw ?_; intro w2 hown hgrow; rw [HZ.out.1] at hown; have hmk := made_whole hown; have hbl : Below B w w2 := (Below.refl _ _).grown hgrow hBw (fun k hk => by cases hk); have hin := (H0.out.up (hbl0 hgrow)); have HMK := Lib.hid (And.intro hmk (And.intro hbl hin)); clear hmk hbl hin hown hgrow)
    go_wp2_with (refine wpList_copy_splice rfl (.tmp 9) (.tmp 10) 22 22 rfl 5 Tryd.underlying22 HI.out.2.2.2.2 _ _ _ _ _ _ rfl rfl w.heap.size 0 _ 5 HMK.out.1 (Lib.byteCells l) (by rw [HL.out]; exact (Nat.min_self _).symm) (fun _ => ⟨rfl, x, rfl, in_cells HMK.out.2.2⟩) (by rw [HZ.out.2, HL.out]; omega) bytes_one B w HMK.out.2.1 hBw ?_; intro w3 hg3 hb3)
    go_ret
    refine ⟨_, _, _, rfl, ?_, hb3⟩
    have e : splice Z 0 (Lib.byteCells l) = Lib.byteCells l := by
      unfold splice
      rw [List.drop_eq_nil_of_le (by rw [HZ.out.2, HL.out]; omega)]
      simp
    have hg4 := hg3.out
    rw [e] at hg4
    exact owns_whole hBw (by unfold maxLen; omega) HL.out hg4

end Go.Proofs.YtalnapcphdmjaaaDoor
