/-
  The css printer as the walk meets it: a block that holds the options that matter and a slice of bytes of its own; the contracts of print and printIndent; conditions: the sizes that each names.
-/
import Derived.Test.YtalnapcphdmjaaaDoorStr
import Derived.Test.YtalnapcphdmjaaaDoorBld
import Derived.Test.YtalnapcphdmjaaaDoorRows
import Derived.WalkKit
import Derived.WalkSpells
import Derived.WalkLawsBesides
namespace Go.Proofs.YtalnapcphdmjaaaDoor
open Go.RowKit

/-- Block g, from B on, holds a printer with these options that has printed l. -/
def Prn (B g : Nat) (mini : Bool) (lim feat : Int) (l : List UInt8) (w : World) : Prop :=
  ∃ (cs : Array Value) (v : Value), B ≤ g ∧ w.heap[g]? = some (.cells cs 64 (0, 0)) ∧ cs.size = 43 ∧ cs[3]? = some (.int .i64 lim) ∧ cs[5]? = some (.int .u16 feat) ∧ cs[6]? = some (.bool mini) ∧ cs[15]? = some v ∧ w.ownsRow B 5 1 v (Lib.byteCells l).length (Lib.byteCells l)

theorem Prn.lt {B g : Nat} {mini : Bool} {lim feat : Int} {l : List UInt8} {w : World} (h : Prn B g mini lim feat l w) : g < w.heap.size := by
  obtain ⟨cs, v, _, hg, _⟩ := h
  exact bld_lt hg

theorem Prn.up {B g : Nat} {mini : Bool} {lim feat : Int} {l : List UInt8} {w w' : World} (h : Prn B g mini lim feat l w) (hb : Below w.heap.size w w') : Prn B g mini lim feat l w' := by
  obtain ⟨cs, v, hB, hg, hs, h3, h5, h6, h15, hown⟩ := h
  refine ⟨cs, v, hB, (hb.block g (bld_lt hg)).trans hg, hs, h3, h5, h6, h15, ⟨hown.1, ?_⟩⟩
  rcases hown.2 with h | ⟨q, cap, cur, hv, hq, hh, r⟩
  · exact .inl h
  · exact .inr ⟨q, cap, cur, hv, hq, (hb.block q (bld_lt hh)).trans hh, r⟩

theorem Prn.put {B g : Nat} {mini : Bool} {lim feat : Int} {l' : List UInt8} {w : World} {cs : Array Value} {v' : Value} (hB : B ≤ g) (hg : w.heap[g]? = some (.cells cs 64 (0, 0))) (hs : cs.size = 43) (h3 : cs[3]? = some (.int .i64 lim)) (h5 : cs[5]? = some (.int .u16 feat)) (h6 : cs[6]? = some (.bool mini))
    (hown : w.ownsRow B 5 1 v' (Lib.byteCells l').length (Lib.byteCells l')) : Prn B g mini lim feat l' (w.setCell ⟨g, 15, none⟩ v') := by
  have hne := Lib.ownBlock_ne hown hg (by decide)
  refine ⟨cs.set! 15 v', v', hB, ?_, by simp [hs], ?_, ?_, ?_, ?_, ?_⟩
  · simp [World.setCell, Array.getElem?_modify, hg]
  · simp [h3]
  · simp [h5]
  · simp [h6]
  · simp [hs]
  · exact hown.kept (row := some g) ⟨rfl, rfl, rfl, by simp [World.setCell], fun k _ hk => Below.heap_setCell _ _ _ _ (fun e => hk (by simp [e]))⟩ (Or.inr hne)

set_option maxHeartbeats 2000000 in
set_option maxRecDepth 100000 in
theorem print_any (B g : Nat) (mini : Bool) (lim feat : Int) (l : List UInt8) (s : ByteArray) (w : World) (h : Prn B g mini lim feat l w) (hlen : l.length + s.size ≤ 140737488355328) (hBw : B ≤ w.heap.size) :
    Calls Tryd.prog 21 #[.pointer (some ⟨g, 0, none⟩), .string s] w fun e w' => e = .returned (.tuple #[]) ∧ Prn B g mini lim feat (l ++ s.data.toList) w' ∧ Below B w w' := by
  obtain ⟨i0, hi, hz0, hz1, hz2⟩ := info_parts bld_byte
  have HI := Lib.hid (And.intro hi (And.intro hz0 (And.intro hz1 hz2)))
  have HL := Lib.hid (show (Lib.byteCells l).length + s.size ≤ 140737488355328 by rw [Lib.byteCells_length]; exact hlen)
  clear hi hz0 hz1 hz2 hlen
  obtain ⟨cs, v, hB, hg, hs, h3, h5, h6, h15, hown⟩ := h
  have H := Lib.hid (And.intro hs (And.intro h3 (And.intro h5 h6)))
  have c15 : w.cell? ⟨g, 15, none⟩ = some v := (Lib.cell_of_heap hg 15).trans h15
  have hne := Lib.ownBlock_ne hown hg (by decide)
  clear hs h3 h5 h6 h15
  go_enter Tryd.func21, Tryd.ntmps21
  go_wp2_with (at_builtin; refine Lib.wpList_append_own_string _ rfl _ _ 22 9 rfl B 5 i0 Tryd.underlying22 Tryd.underlying9 HI.out.1 HI.out.2.1 HI.out.2.2.1 HI.out.2.2.2 _ _ _ rfl hown s rfl ?b1 ?b2 ?b3 ?_)
  case b1 => have := HL.out; unfold maxLen; omega
  case b2 => have := HL.out; omega
  case b3 => omega
  intro v' w2 hown' hgrow _
  have hb2 : w2.heap[g]? = some (.cells cs 64 (0, 0)) := (hgrow.block g (bld_lt hg) fun e => hne e.symm).trans hg
  have d1 : w2.cell? ⟨g, 15, none⟩ = some v := (Lib.cell_of_heap hb2 15).trans ((Lib.cell_of_heap hg 15).symm.trans c15)
  have f1 : w2.frozen? ⟨g, 15, none⟩ = false := Lib.frozen_of_heap hb2 15
  obtain ⟨ao, n', cap, rfl⟩ : ∃ ao n' cap, v' = .slice ao n' cap := by
    rcases hown'.2 with ⟨e, _⟩ | ⟨g, cap, cur, e, _⟩ <;> exact ⟨_, _, _, e⟩
  go_wp2
  go_end0
  refine ⟨rfl, ?_, ((Below.refl B w).grown hgrow (by omega) (fun k hk => (hown.lt k hk).1)).setCell (p := ⟨g, 15, none⟩) hB _⟩
  exact Prn.put hB hb2 H.out.1 H.out.2.1 H.out.2.2.1 H.out.2.2.2 (by rw [Lib.byteCells_append]; show w2.ownsRow B 5 1 _ (Lib.byteCells l ++ Lib.strCells s).length (Lib.byteCells l ++ Lib.strCells s); simpa [Lib.strCells_length] using hown')


/-- The levels that an indentation draws. -/
def lv (n lim : Int) : Nat := if 0 < lim ∧ lim ≤ n * 2 then (lim.tdiv 2).toNat else n.toNat

theorem two_more {B : Nat} {w : World} {v : Value} {l : List UInt8} {k : Nat} (h : w.ownsRow B 5 1 v ((Lib.byteCells (l ++ List.replicate (2 * k) 32)).length + (⟨#[32, 32]⟩ : ByteArray).size) (Lib.byteCells (l ++ List.replicate (2 * k) 32) ++ Lib.strCells ⟨#[32, 32]⟩)) :
    w.ownsRow B 5 1 v (Lib.byteCells (l ++ List.replicate (2 * (k + 1)) 32)).length (Lib.byteCells (l ++ List.replicate (2 * (k + 1)) 32)) := by
  have e : l ++ List.replicate (2 * (k + 1)) 32 = (l ++ List.replicate (2 * k) 32) ++ [32, 32] := by
    rw [show 2 * (k + 1) = 2 * k + 2 from rfl, ← List.replicate_append_replicate, List.append_assoc]
    rfl
  rw [e, Lib.byteCells_append (l ++ List.replicate (2 * k) 32), List.length_append]
  exact h

set_option maxHeartbeats 2000000 in
set_option maxRecDepth 100000 in
theorem indent_any (B g : Nat) (mini : Bool) (lim feat : Int) (l : List UInt8) (n : Int) (w : World) (hn0 : -2147483648 ≤ n) (hn : n ≤ 65536) (hlim : -9223372036854775808 ≤ lim ∧ lim ≤ 9223372036854775807) (h : Prn B g mini lim feat l w) (hlen : l.length ≤ 1099511627776) (hBw : B ≤ w.heap.size) :
    Calls Tryd.prog 22 #[.pointer (some ⟨g, 0, none⟩), .int .i32 n] w fun e w' => e = .returned (.tuple #[]) ∧ Prn B g mini lim feat (l ++ List.replicate (2 * lv n lim) 32) w' ∧ Below B w w' := by
  obtain ⟨i0, hi, hz0, hz1, hz2⟩ := info_parts bld_byte
  have HI := Lib.hid (And.intro hi (And.intro hz0 (And.intro hz1 hz2)))
  clear hi hz0 hz1 hz2
  have hP := h
  obtain ⟨cs, v, hB, hg, hs, h3, h5, h6, h15, hown⟩ := h
  have c3 : w.cell? ⟨g, 3, none⟩ = some (.int .i64 lim) := (Lib.cell_of_heap hg 3).trans h3
  clear hs h3 h5 h6 h15 hown
  have HP := Lib.hid hP
  clear hP
  by_cases h1 : 0 < lim
  · by_cases h2 : lim ≤ n * 2
    · have hq : lim.tdiv 2 = lim / 2 := Int.tdiv_eq_ediv_of_nonneg (by omega)
      have hlv : lv n lim = (lim / 2).toNat := by unfold lv; rw [if_pos ⟨h1, h2⟩, hq]
      rw [hlv]
      clear hlv
      go_enter Tryd.func22, Tryd.ntmps22
      go_wp2
      go_loopw [5] (fun i wr => ∃ k : Nat, k ≤ (lim / 2).toNat ∧ i = .int .i64 k ∧ Prn B g mini lim feat (l ++ List.replicate (2 * k) 32) wr ∧ Below B w wr) (fun i _ => (lim / 2).toNat - (intOf i).toNat)
      case atStart => exact ⟨0, Nat.zero_le _, rfl, by simpa using HP.out, Below.refl _ _⟩
      case round =>
        clear hg c3
        obtain ⟨k, hk, rfl, hpr, hbl⟩ := hrel
        by_cases hlt : k < (lim / 2).toNat
        · have hlt1 : (k : Int) < lim / 2 := by omega
          obtain ⟨cs1, v1, _, hg1, hs1, h31, h51, h61, h151, hown1⟩ := hpr
          have H1 := Lib.hid (And.intro hs1 (And.intro h31 (And.intro h51 h61)))
          have c15 : wr.cell? ⟨g, 15, none⟩ = some v1 := (Lib.cell_of_heap hg1 15).trans h151
          have hne := Lib.ownBlock_ne hown1 hg1 (by decide)
          have hszr := hbl.size
          clear hs1 h31 h51 h61 h151
          go_wp2_with (at_builtin; refine Lib.wpList_append_own_string _ rfl _ _ 22 9 rfl B 5 i0 Tryd.underlying22 Tryd.underlying9 HI.out.1 HI.out.2.1 HI.out.2.2.1 HI.out.2.2.2 _ _ _ rfl hown1 ⟨#[32, 32]⟩ rfl ?b1 ?b2 ?b3 ?_)
          case b1 => rw [Lib.byteCells_length, List.length_append, List.length_replicate]; show _ + 2 ≤ _; unfold maxLen; omega
          case b2 => rw [Lib.byteCells_length, List.length_append, List.length_replicate]; show _ + 2 ≤ _; omega
          case b3 => omega
          intro v' w2 hown' hgrow _
          have hb2 : w2.heap[g]? = some (.cells cs1 64 (0, 0)) := (hgrow.block g (bld_lt hg1) fun e => hne e.symm).trans hg1
          have d1 : w2.cell? ⟨g, 15, none⟩ = some v1 := (Lib.cell_of_heap hb2 15).trans ((Lib.cell_of_heap hg1 15).symm.trans c15)
          have f1 : w2.frozen? ⟨g, 15, none⟩ = false := Lib.frozen_of_heap hb2 15
          obtain ⟨ao, n', cap, rfl⟩ : ∃ ao n' cap, v' = .slice ao n' cap := by
            rcases hown'.2 with ⟨e, _⟩ | ⟨g, cap, cur, e, _⟩ <;> exact ⟨_, _, _, e⟩
          go_wp2
          refine ⟨⟨k + 1, by omega, by go_num, ?_, (hbl.grown hgrow (by omega) (fun k hk => (hown1.lt k hk).1)).setCell (p := ⟨g, 15, none⟩) hB _⟩, by simp [intOf]; omega⟩
          exact Prn.put hB hb2 H1.out.1 H1.out.2.1 H1.out.2.2.1 H1.out.2.2.2 (two_more hown')
        · have hlt1 : ¬ (k : Int) < lim / 2 := by omega
          obtain rfl : k = (lim / 2).toNat := by omega
          go_wp2
          go_end0
          exact ⟨rfl, hpr, hbl⟩

    · have hlv : lv n lim = n.toNat := by unfold lv; rw [if_neg (fun h => h2 h.2)]
      rw [hlv]
      clear hlv
      go_enter Tryd.func22, Tryd.ntmps22
      go_wp2
      go_loopw [5] (fun i wr => ∃ k : Nat, k ≤ n.toNat ∧ i = .int .i64 k ∧ Prn B g mini lim feat (l ++ List.replicate (2 * k) 32) wr ∧ Below B w wr) (fun i _ => n.toNat - (intOf i).toNat)
      case atStart => exact ⟨0, Nat.zero_le _, rfl, by simpa using HP.out, Below.refl _ _⟩
      case round =>
        clear hg c3
        obtain ⟨k, hk, rfl, hpr, hbl⟩ := hrel
        by_cases hlt : k < n.toNat
        · have hlt1 : (k : Int) < n := by omega
          obtain ⟨cs1, v1, _, hg1, hs1, h31, h51, h61, h151, hown1⟩ := hpr
          have H1 := Lib.hid (And.intro hs1 (And.intro h31 (And.intro h51 h61)))
          have c15 : wr.cell? ⟨g, 15, none⟩ = some v1 := (Lib.cell_of_heap hg1 15).trans h151
          have hne := Lib.ownBlock_ne hown1 hg1 (by decide)
          have hszr := hbl.size
          clear hs1 h31 h51 h61 h151
          go_wp2_with (at_builtin; refine Lib.wpList_append_own_string _ rfl _ _ 22 9 rfl B 5 i0 Tryd.underlying22 Tryd.underlying9 HI.out.1 HI.out.2.1 HI.out.2.2.1 HI.out.2.2.2 _ _ _ rfl hown1 ⟨#[32, 32]⟩ rfl ?b1 ?b2 ?b3 ?_)
          case b1 => rw [Lib.byteCells_length, List.length_append, List.length_replicate]; show _ + 2 ≤ _; unfold maxLen; omega
          case b2 => rw [Lib.byteCells_length, List.length_append, List.length_replicate]; show _ + 2 ≤ _; omega
          case b3 => omega
          intro v' w2 hown' hgrow _
          have hb2 : w2.heap[g]? = some (.cells cs1 64 (0, 0)) := (hgrow.block g (bld_lt hg1) fun e => hne e.symm).trans hg1
          have d1 : w2.cell? ⟨g, 15, none⟩ = some v1 := (Lib.cell_of_heap hb2 15).trans ((Lib.cell_of_heap hg1 15).symm.trans c15)
          have f1 : w2.frozen? ⟨g, 15, none⟩ = false := Lib.frozen_of_heap hb2 15
          obtain ⟨ao, n', cap, rfl⟩ : ∃ ao n' cap, v' = .slice ao n' cap := by
            rcases hown'.2 with ⟨e, _⟩ | ⟨g, cap, cur, e, _⟩ <;> exact ⟨_, _, _, e⟩
          go_wp2
          refine ⟨⟨k + 1, by omega, by go_num, ?_, (hbl.grown hgrow (by omega) (fun k hk => (hown1.lt k hk).1)).setCell (p := ⟨g, 15, none⟩) hB _⟩, by simp [intOf]; omega⟩
          exact Prn.put hB hb2 H1.out.1 H1.out.2.1 H1.out.2.2.1 H1.out.2.2.2 (two_more hown')
        · have hlt1 : ¬ (k : Int) < n := by omega
          obtain rfl : k = n.toNat := by omega
          go_wp2
          go_end0
          exact ⟨rfl, hpr, hbl⟩

  · have hlv : lv n lim = n.toNat := by unfold lv; rw [if_neg (fun h => h1 h.1)]
    rw [hlv]
    clear hlv
    go_enter Tryd.func22, Tryd.ntmps22
    go_wp2
    go_loopw [5] (fun i wr => ∃ k : Nat, k ≤ n.toNat ∧ i = .int .i64 k ∧ Prn B g mini lim feat (l ++ List.replicate (2 * k) 32) wr ∧ Below B w wr) (fun i _ => n.toNat - (intOf i).toNat)
    case atStart => exact ⟨0, Nat.zero_le _, rfl, by simpa using HP.out, Below.refl _ _⟩
    case round =>
      clear hg c3
      obtain ⟨k, hk, rfl, hpr, hbl⟩ := hrel
      by_cases hlt : k < n.toNat
      · have hlt1 : (k : Int) < n := by omega
        obtain ⟨cs1, v1, _, hg1, hs1, h31, h51, h61, h151, hown1⟩ := hpr
        have H1 := Lib.hid (And.intro hs1 (And.intro h31 (And.intro h51 h61)))
        have c15 : wr.cell? ⟨g, 15, none⟩ = some v1 := (Lib.cell_of_heap hg1 15).trans h151
        have hne := Lib.ownBlock_ne hown1 hg1 (by decide)
        have hszr := hbl.size
        clear hs1 h31 h51 h61 h151
        go_wp2_with (at_builtin; refine Lib.wpList_append_own_string _ rfl _ _ 22 9 rfl B 5 i0 Tryd.underlying22 Tryd.underlying9 HI.out.1 HI.out.2.1 HI.out.2.2.1 HI.out.2.2.2 _ _ _ rfl hown1 ⟨#[32, 32]⟩ rfl ?b1 ?b2 ?b3 ?_)
        case b1 => rw [Lib.byteCells_length, List.length_append, List.length_replicate]; show _ + 2 ≤ _; unfold maxLen; omega
        case b2 => rw [Lib.byteCells_length, List.length_append, List.length_replicate]; show _ + 2 ≤ _; omega
        case b3 => omega
        intro v' w2 hown' hgrow _
        have hb2 : w2.heap[g]? = some (.cells cs1 64 (0, 0)) := (hgrow.block g (bld_lt hg1) fun e => hne e.symm).trans hg1
        have d1 : w2.cell? ⟨g, 15, none⟩ = some v1 := (Lib.cell_of_heap hb2 15).trans ((Lib.cell_of_heap hg1 15).symm.trans c15)
        have f1 : w2.frozen? ⟨g, 15, none⟩ = false := Lib.frozen_of_heap hb2 15
        obtain ⟨ao, n', cap, rfl⟩ : ∃ ao n' cap, v' = .slice ao n' cap := by
          rcases hown'.2 with ⟨e, _⟩ | ⟨g, cap, cur, e, _⟩ <;> exact ⟨_, _, _, e⟩
        go_wp2
        refine ⟨⟨k + 1, by omega, by go_num, ?_, (hbl.grown hgrow (by omega) (fun k hk => (hown1.lt k hk).1)).setCell (p := ⟨g, 15, none⟩) hB _⟩, by simp [intOf]; omega⟩
        exact Prn.put hB hb2 H1.out.1 H1.out.2.1 H1.out.2.2.1 H1.out.2.2.2 (two_more hown')
      · have hlt1 : ¬ (k : Int) < n := by omega
        obtain rfl : k = n.toNat := by omega
        go_wp2
        go_end0
        exact ⟨rfl, hpr, hbl⟩


end Go.Proofs.YtalnapcphdmjaaaDoor
