/-
  The contracts of the guard, of cloning a row of int32 and of the printing's wrapper; conditions: those that each names.
-/
import Derived.Test.YtlhffojmpaefjaaDoorPel
import Derived.Test.YtlhffojmpaefjaaDoorRowIn
import Derived.Test.YtlhffojmpaefjaaDoorRow
import Derived.WalkSpells
import Derived.OwnWalk
namespace Go.Proofs.YtlhffojmpaefjaaDoor
open Go.RowKit

theorem InRow.get {α : Type} {con : α → Value} {w : World} {a : Option Addr} {len cap : Nat} {xs : List α} (h : InRow w a len cap (xs.map con)) {i : Nat} (hi : i < len) : ∃ x u, a = some x ∧ xs[i]? = some u ∧ w.cell? (x.add i) = some (con u) := by
  obtain ⟨x, h1, h2⟩ := h.at hi
  have hl := h.len
  rw [List.length_map] at hl
  refine ⟨x, xs[i], h1, List.getElem?_eq_getElem (by omega), ?_⟩
  rw [h2, List.getElem?_map, List.getElem?_eq_getElem (by omega)]
  rfl

theorem row_in {w : World} {g n : Nat} {t : TypeId} {f : Nat → Value} {vs : List Value} (h : Row w g t n f) (hn : n ≤ maxLen) (hl : vs.length = n) (hf : ∀ i u, vs[i]? = some u → f i = u) : InRow w (some ⟨g, 0, none⟩) n n vs := by
  refine .inr ⟨_, rfl, Nat.le_refl _, hn, hl, fun i u hu => ?_⟩
  have hi : i < n := by have := (List.getElem?_eq_some_iff.1 hu).1; omega
  have := h.cell hi
  rw [hf i u hu] at this
  have e : (⟨g, 0, none⟩ : Addr).add i = ⟨g, i, none⟩ := by
    unfold Addr.add
    split
    · next h0 => rw [h0]
    · simp
  rw [e]
  exact this

/-- What a cloned row holds when k of its elements are laid. -/
def part {α : Type} (con : α → Value) (z : Value) (xs : List α) (k j : Nat) : Value := if j < k then (xs.map con).getD j z else z
theorem part_next {α : Type} {con : α → Value} {z : Value} {xs : List α} {k : Nat} {u : α} (hu : xs[k]? = some u) (j : Nat) : (if j = k then con u else part con z xs k j) = part con z xs (k + 1) j := by
  unfold part
  by_cases e : j = k
  · subst e
    rw [if_pos rfl, if_pos (by omega), List.getD_eq_getElem?_getD, List.getElem?_map, hu]
    rfl
  · rw [if_neg e]
    by_cases h : j < k
    · rw [if_pos h, if_pos (by omega)]
    · rw [if_neg h, if_neg (by omega)]
theorem part_all {α : Type} {con : α → Value} {z : Value} {xs : List α} {k : Nat} (hk : k = xs.length) (i : Nat) (u : Value) (hu : (xs.map con)[i]? = some u) : part con z xs k i = u := by
  unfold part
  rw [if_pos (by have := (List.getElem?_eq_some_iff.1 hu).1; simp at this; omega), List.getD_eq_getElem?_getD, hu]
  rfl
def CloneRel {α : Type} (con : α → Value) (z : Value) (xs : List α) (t : TypeId) (len : Nat) (w : World) (s : Value) (wr : World) : Prop :=
  ∃ k : Nat, k ≤ len ∧ s = .int .i64 k ∧ Row wr w.heap.size t len (part con z xs k) ∧ Below w.heap.size w wr
def CloneEnd (vs : List Value) (len : Nat) (w : World) (e : Ending) (w' : World) : Prop := ∃ A cap, e = .returned (.slice A len cap) ∧ InRow w' A len cap vs ∧ Below w.heap.size w w'

theorem info21 : (Tryd.prog.info? 21).map (fun i => (i.zero, i.size, i.bytes)) = some (some (.int .i32 0), 1, 4) := by kernel_rfl
set_option maxHeartbeats 1000000 in
set_option maxRecDepth 100000 in
theorem clone32 (a : Option Addr) (len cap : Nat) (xs : List Int) (w : World) (h : InRow w a len cap (xs.map (Value.int .i32))) (hl : len ≤ 1048576) : Calls Tryd.prog 5 #[.slice a len cap] w (CloneEnd (xs.map (Value.int .i32)) len w) := by
  have hlen := h.len
  rw [List.length_map] at hlen
  cases a with
  | none =>
    obtain ⟨rfl, rfl⟩ : len = 0 ∧ cap = 0 := by
      rcases h with ⟨_, h1, h2, _⟩ | ⟨x, h1, _⟩
      · exact ⟨h1, h2⟩
      · cases h1
    obtain rfl : xs = [] := List.eq_nil_of_length_eq_zero hlen
    have q := Lib.run_eql_slice_nil (P := Tryd.prog)
    go_enter Tryd.func5, Tryd.ntmps5
    go_wp2
    go_ret
    exact ⟨none, 0, rfl, .inl ⟨rfl, rfl, rfl, rfl⟩, Below.refl _ _⟩
  | some x =>
    obtain ⟨i0, hi, hz0, hz1, hz2⟩ := info_parts info21
    have HI := Lib.hid (And.intro hi (And.intro hz0 (And.intro hz1 hz2)))
    have H0 := Lib.hid h
    have HL := Lib.hid hlen
    clear hi hz0 hz1 hz2 h hlen
    have q := Lib.run_eql_slice_nil (P := Tryd.prog)
    go_enter Tryd.func5, Tryd.ntmps5
    go_wp2_with (at_make; refine wpList_make_full _ rfl (.tmp 8) (.tmp 8) 22 rfl w.heap.size 21 i0 (.int .i32 0) 1 Tryd.underlying22 HI.out.1 HI.out.2.1 HI.out.2.2.1 _ _ _ _ len rfl rfl rfl rfl (by rw [HI.out.2.2.2]; omega) (by unfold maxLen; omega) (Nat.le_refl _) ?_; intro w2 hown hgrow)
    have r0 : Row w2 w.heap.size 21 (len * 1) (part (Value.int .i32) (.int .i32 0) xs 0) := row_made (size := 1) rfl (by decide) _ (fun i _ => by
      rw [Nat.mod_one]; rfl) hown
    rw [Nat.mul_one] at r0
    have hb2 : Below w.heap.size w w2 := (Below.refl _ _).grown hgrow (Nat.le_refl _) (fun k hk => by cases hk)
    have HR := Lib.hid (And.intro r0 hb2)
    clear r0 hb2 hown hgrow
    go_loopw [4] (fun s4 wr => CloneRel (Value.int .i32) (.int .i32 0) xs 21 len w s4 wr) (fun s4 _ => len - (intOf s4).toNat)
    case atStart => exact ⟨0, Nat.zero_le _, rfl, HR.out⟩
    case round =>
      obtain ⟨k, hk, rfl, hr, hb⟩ := hrel
      have HRB := Lib.hid (And.intro hr hb)
      by_cases hlt : k < len
      · obtain ⟨x', u, hx, hu, hc⟩ := (H0.out.up hb).get hlt
        obtain rfl : x = x' := Option.some.inj hx
        have c0 := hr.cell hlt
        have f0 := hr.frozen k
        have hrl := hr.lt
        have HU := Lib.hid hu
        clear hu hr hb hx
        go_wp2_with fail
        go_roundw
        case rel => exact ⟨k + 1, by omega, by go_num, (HRB.out.1.set k _).congr (fun j _ => part_next HU.out j), HRB.out.2.setCell (p := ⟨w.heap.size, k, none⟩) (Nat.le_refl _) _⟩
        case measure => simp [intOf]; omega
      · clear hr hb
        go_wp2_with fail
        go_ret
        exact ⟨_, _, rfl, row_in HRB.out.1 (by unfold maxLen; omega) (by rw [List.length_map]; exact HL.out) (part_all (by have := HL.out; omega)), HRB.out.2⟩


/-- A guard's answer. -/
def Ans (P : Prop) (w : World) (e : Ending) (w' : World) : Prop := ∃ b : Bool, e = .returned (.bool b) ∧ w = w' ∧ (b = true → P)
set_option maxHeartbeats 1000000 in
theorem bytes4_any (a0 a1 : Option Addr) (l0 c0 l1 c1 : Nat) (x y : Int) (b : Bool) (w : World) (h0 : l0 ≤ maxLen) (h1 : l1 ≤ maxLen) :
    Calls Tryd.prog 4 #[.slice a0 l0 c0, .slice a1 l1 c1, .int .i32 x, .int .i32 y, .bool b] w (Ans True w) := by
  unfold maxLen at h0 h1
  go_enter Tryd.func4, Tryd.ntmps4
  go_wp2_with fail
  all_goals (go_ret; exact ⟨_, rfl, rfl, fun _ => trivial⟩)

set_option maxHeartbeats 1000000 in
set_option maxRecDepth 100000 in
theorem wrap11 (B g m1 m2 : Nat) (mw : Bool) (l : List UInt8) (C P : DataW Unit) (nc np : Nat) (x : Int) (w : World) (hx : (Lit.int .i32 x).wf = true) (h : ST B g m1 m2 mw l C P nc np w) (hlen : l.length ≤ 4096) (hBw : B ≤ w.heap.size) (hn : np < 1048577) :
    Calls Tryd.prog 11 #[.pointer (some ⟨g, 0, none⟩), .int .i32 x] w fun e w' => e = .returned (.tuple #[]) ∧ PelPost B g m1 m2 mw l C P nc np x w' ∧ Below B w w' := by
  have HU := Lib.hid (pel_any B g m1 m2 mw l C P nc np x w hx h hlen hBw hn)
  obtain ⟨Z, hZ⟩ : ∃ Z : World → Prop, PelPost B g m1 m2 mw l C P nc np x = Z := ⟨_, rfl⟩
  rw [hZ] at HU ⊢
  clear hZ h hx
  go_enter Tryd.func11, Tryd.ntmps11
  go_wp2_with fail
  refine HU.out.mono ?_
  rintro e w' ⟨rfl, hb⟩
  have HB := Lib.hid hb
  clear hb
  go_wp2_with fail
  go_end0
  exact ⟨rfl, HB.out.1, HB.out.2⟩
end Go.Proofs.YtlhffojmpaefjaaDoor
