/-
  The contracts of the cloning functions; conditions: those that each names.
-/
import Derived.Test.YtejdbjfniepomaaFmtGuard
namespace Go.Proofs.YtejdbjfniepomaaFmt
open Go.RowKit

theorem row_in {w : World} {g n : Nat} {t : TypeId} {f : Nat → Value} {vs : List Value} (h : Row w g t n f) (hn : n ≤ maxLen) (hl : vs.length = n) (hf : ∀ i u, vs[i]? = some u → f i = u) : InRow w (some ⟨g, 0, none⟩) n n vs := by
  refine .inr ⟨_, rfl, Nat.le_refl _, hn, hl, fun i u hu => ?_⟩
  have hi : i < n := by have := (List.getElem?_eq_some_iff.1 hu).1; omega
  have := h.cell hi
  rw [hf i u hu] at this
  have e : (⟨g, 0, none⟩ : Addr).add i = ⟨g, i, none⟩ := by
    unfold Addr.add
    split
    · next h0 => rw [h0]
    · simp
  rw [e]
  exact this

/-- What a cloned row holds when k of its elements are laid. -/
def part {α : Type} (con : α → Value) (z : Value) (xs : List α) (k j : Nat) : Value := if j < k then (xs.map con).getD j z else z
theorem part_next {α : Type} {con : α → Value} {z : Value} {xs : List α} {k : Nat} {u : α} (hu : xs[k]? = some u) (j : Nat) : (if j = k then con u else part con z xs k j) = part con z xs (k + 1) j := by
  unfold part
  by_cases e : j = k
  · subst e
    rw [if_pos rfl, if_pos (by omega), List.getD_eq_getElem?_getD, List.getElem?_map, hu]
    rfl
  · rw [if_neg e]
    by_cases h : j < k
    · rw [if_pos h, if_pos (by omega)]
    · rw [if_neg h, if_neg (by omega)]
theorem part_all {α : Type} {con : α → Value} {z : Value} {xs : List α} {k : Nat} (hk : k = xs.length) (i : Nat) (u : Value) (hu : (xs.map con)[i]? = some u) : part con z xs k i = u := by
  unfold part
  rw [if_pos (by have := (List.getElem?_eq_some_iff.1 hu).1; simp at this; omega), List.getD_eq_getElem?_getD, hu]
  rfl
def CloneRel {α : Type} (con : α → Value) (z : Value) (xs : List α) (t : TypeId) (len : Nat) (w : World) (s : Value) (wr : World) : Prop :=
  ∃ k : Nat, k ≤ len ∧ s = .int .i64 k ∧ Row wr w.heap.size t len (part con z xs k) ∧ Below w.heap.size w wr
def CloneEnd (vs : List Value) (len : Nat) (w : World) (e : Ending) (w' : World) : Prop := ∃ A cap, e = .returned (.slice A len cap) ∧ InRow w' A len cap vs ∧ Below w.heap.size w w'

theorem info9 : (Tryf.prog.info? 9).map (fun i => (i.zero, i.size, i.bytes)) = some (some (.string ⟨#[]⟩), 1, 16) := by kernel_rfl
set_option maxHeartbeats 1000000 in
set_option maxRecDepth 100000 in
theorem clone8 (a : Option Addr) (len cap : Nat) (xs : List ByteArray) (w : World) (h : InRow w a len cap (xs.map Value.string)) (hl : len ≤ 1048576) : Calls Tryf.prog 8 #[.slice a len cap] w (CloneEnd (xs.map Value.string) len w) := by
  have hlen := h.len
  rw [List.length_map] at hlen
  cases a with
  | none =>
    obtain ⟨rfl, rfl⟩ : len = 0 ∧ cap = 0 := by
      rcases h with ⟨_, h1, h2, _⟩ | ⟨x, h1, _⟩
      · exact ⟨h1, h2⟩
      · cases h1
    obtain rfl : xs = [] := List.eq_nil_of_length_eq_zero hlen
    have q := Lib.run_eql_slice_nil (P := Tryf.prog)
    go_enter Tryf.func8, Tryf.ntmps8
    go_wp2
    go_ret
    exact ⟨none, 0, rfl, .inl ⟨rfl, rfl, rfl, rfl⟩, Below.refl _ _⟩
  | some x =>
    obtain ⟨i0, hi, hz0, hz1, hz2⟩ := info_parts info9
    have HI := Lib.hid (And.intro hi (And.intro hz0 (And.intro hz1 hz2)))
    have H0 := Lib.hid h
    have HL := Lib.hid hlen
    clear hi hz0 hz1 hz2 h hlen
    have q := Lib.run_eql_slice_nil (P := Tryf.prog)
    go_enter Tryf.func8, Tryf.ntmps8
    go_wp2_with (at_make; refine wpList_make_full _ rfl (.tmp 8) (.tmp 8) 22 rfl w.heap.size 9 i0 (.string ⟨#[]⟩) 1 Tryf.underlying22 HI.out.1 HI.out.2.1 HI.out.2.2.1 _ _ _ _ len rfl rfl rfl rfl (by rw [HI.out.2.2.2]; omega) (by unfold maxLen; omega) (Nat.le_refl _) ?_; intro w2 hown hgrow)
    have r0 : Row w2 w.heap.size 9 (len * 1) (part Value.string (.string ⟨#[]⟩) xs 0) := row_made (size := 1) rfl (by decide) _ (fun i _ => by
      rw [Nat.mod_one]; rfl) hown
    rw [Nat.mul_one] at r0
    have hb2 : Below w.heap.size w w2 := (Below.refl _ _).grown hgrow (Nat.le_refl _) (fun k hk => by cases hk)
    have HR := Lib.hid (And.intro r0 hb2)
    clear r0 hb2 hown hgrow
    go_loopw [4] (fun s4 wr => CloneRel Value.string (.string ⟨#[]⟩) xs 9 len w s4 wr) (fun s4 _ => len - (intOf s4).toNat)
    case atStart => exact ⟨0, Nat.zero_le _, rfl, HR.out⟩
    case round =>
      obtain ⟨k, hk, rfl, hr, hb⟩ := hrel
      have HRB := Lib.hid (And.intro hr hb)
      by_cases hlt : k < len
      · obtain ⟨x', u, hx, hu, hc⟩ := (H0.out.up hb).get hlt
        obtain rfl : x = x' := Option.some.inj hx
        have c0 := hr.cell hlt
        have f0 := hr.frozen k
        have hrl := hr.lt
        have HU := Lib.hid hu
        clear hu hr hb hx
        go_wp2_with fail
        go_roundw
        case rel => exact ⟨k + 1, by omega, by go_num, (HRB.out.1.set k _).congr (fun j _ => part_next HU.out j), HRB.out.2.setCell (p := ⟨w.heap.size, k, none⟩) (Nat.le_refl _) _⟩
        case measure => simp [intOf]; omega
      · clear hr hb
        go_wp2_with fail
        go_ret
        exact ⟨_, _, rfl, row_in HRB.out.1 (by unfold maxLen; omega) (by rw [List.length_map]; exact HL.out) (part_all (by have := HL.out; omega)), HRB.out.2⟩

theorem info4 : (Tryf.prog.info? 4).map (fun i => (i.zero, i.size, i.bytes)) = some (some (.bool false), 1, 1) := by kernel_rfl
set_option maxHeartbeats 1000000 in
set_option maxRecDepth 100000 in
theorem clone9 (a : Option Addr) (len cap : Nat) (xs : List Bool) (w : World) (h : InRow w a len cap (xs.map Value.bool)) (hl : len ≤ 1048576) : Calls Tryf.prog 9 #[.slice a len cap] w (CloneEnd (xs.map Value.bool) len w) := by
  have hlen := h.len
  rw [List.length_map] at hlen
  cases a with
  | none =>
    obtain ⟨rfl, rfl⟩ : len = 0 ∧ cap = 0 := by
      rcases h with ⟨_, h1, h2, _⟩ | ⟨x, h1, _⟩
      · exact ⟨h1, h2⟩
      · cases h1
    obtain rfl : xs = [] := List.eq_nil_of_length_eq_zero hlen
    have q := Lib.run_eql_slice_nil (P := Tryf.prog)
    go_enter Tryf.func9, Tryf.ntmps9
    go_wp2
    go_ret
    exact ⟨none, 0, rfl, .inl ⟨rfl, rfl, rfl, rfl⟩, Below.refl _ _⟩
  | some x =>
    obtain ⟨i0, hi, hz0, hz1, hz2⟩ := info_parts info4
    have HI := Lib.hid (And.intro hi (And.intro hz0 (And.intro hz1 hz2)))
    have H0 := Lib.hid h
    have HL := Lib.hid hlen
    clear hi hz0 hz1 hz2 h hlen
    have q := Lib.run_eql_slice_nil (P := Tryf.prog)
    go_enter Tryf.func9, Tryf.ntmps9
    go_wp2_with (at_make; refine wpList_make_full _ rfl (.tmp 8) (.tmp 8) 23 rfl w.heap.size 4 i0 (.bool false) 1 Tryf.underlying23 HI.out.1 HI.out.2.1 HI.out.2.2.1 _ _ _ _ len rfl rfl rfl rfl (by rw [HI.out.2.2.2]; omega) (by unfold maxLen; omega) (Nat.le_refl _) ?_; intro w2 hown hgrow)
    have r0 : Row w2 w.heap.size 4 (len * 1) (part Value.bool (.bool false) xs 0) := row_made (size := 1) rfl (by decide) _ (fun i _ => by
      rw [Nat.mod_one]; rfl) hown
    rw [Nat.mul_one] at r0
    have hb2 : Below w.heap.size w w2 := (Below.refl _ _).grown hgrow (Nat.le_refl _) (fun k hk => by cases hk)
    have HR := Lib.hid (And.intro r0 hb2)
    clear r0 hb2 hown hgrow
    go_loopw [4] (fun s4 wr => CloneRel Value.bool (.bool false) xs 4 len w s4 wr) (fun s4 _ => len - (intOf s4).toNat)
    case atStart => exact ⟨0, Nat.zero_le _, rfl, HR.out⟩
    case round =>
      obtain ⟨k, hk, rfl, hr, hb⟩ := hrel
      have HRB := Lib.hid (And.intro hr hb)
      by_cases hlt : k < len
      · obtain ⟨x', u, hx, hu, hc⟩ := (H0.out.up hb).get hlt
        obtain rfl : x = x' := Option.some.inj hx
        have c0 := hr.cell hlt
        have f0 := hr.frozen k
        have hrl := hr.lt
        have HU := Lib.hid hu
        clear hu hr hb hx
        go_wp2_with fail
        go_roundw
        case rel => exact ⟨k + 1, by omega, by go_num, (HRB.out.1.set k _).congr (fun j _ => part_next HU.out j), HRB.out.2.setCell (p := ⟨w.heap.size, k, none⟩) (Nat.le_refl _) _⟩
        case measure => simp [intOf]; omega
      · clear hr hb
        go_wp2_with fail
        go_ret
        exact ⟨_, _, rfl, row_in HRB.out.1 (by unfold maxLen; omega) (by rw [List.length_map]; exact HL.out) (part_all (by have := HL.out; omega)), HRB.out.2⟩

theorem info31 : (Tryf.prog.info? 31).map (fun i => (i.zero, i.size, i.bytes)) = some (some (.int .u32 0), 1, 4) := by kernel_rfl
set_option maxHeartbeats 1000000 in
set_option maxRecDepth 100000 in
theorem clone10 (a : Option Addr) (len cap : Nat) (xs : List Int) (w : World) (h : InRow w a len cap (xs.map (Value.int .u32))) (hl : len ≤ 1048576) : Calls Tryf.prog 10 #[.slice a len cap] w (CloneEnd (xs.map (Value.int .u32)) len w) := by
  have hlen := h.len
  rw [List.length_map] at hlen
  cases a with
  | none =>
    obtain ⟨rfl, rfl⟩ : len = 0 ∧ cap = 0 := by
      rcases h with ⟨_, h1, h2, _⟩ | ⟨x, h1, _⟩
      · exact ⟨h1, h2⟩
      · cases h1
    obtain rfl : xs = [] := List.eq_nil_of_length_eq_zero hlen
    have q := Lib.run_eql_slice_nil (P := Tryf.prog)
    go_enter Tryf.func10, Tryf.ntmps10
    go_wp2
    go_ret
    exact ⟨none, 0, rfl, .inl ⟨rfl, rfl, rfl, rfl⟩, Below.refl _ _⟩
  | some x =>
    obtain ⟨i0, hi, hz0, hz1, hz2⟩ := info_parts info31
    have HI := Lib.hid (And.intro hi (And.intro hz0 (And.intro hz1 hz2)))
    have H0 := Lib.hid h
    have HL := Lib.hid hlen
    clear hi hz0 hz1 hz2 h hlen
    have q := Lib.run_eql_slice_nil (P := Tryf.prog)
    go_enter Tryf.func10, Tryf.ntmps10
    go_wp2_with (at_make; refine wpList_make_full _ rfl (.tmp 8) (.tmp 8) 24 rfl w.heap.size 31 i0 (.int .u32 0) 1 Tryf.underlying24 HI.out.1 HI.out.2.1 HI.out.2.2.1 _ _ _ _ len rfl rfl rfl rfl (by rw [HI.out.2.2.2]; omega) (by unfold maxLen; omega) (Nat.le_refl _) ?_; intro w2 hown hgrow)
    have r0 : Row w2 w.heap.size 31 (len * 1) (part (Value.int .u32) (.int .u32 0) xs 0) := row_made (size := 1) rfl (by decide) _ (fun i _ => by
      rw [Nat.mod_one]; rfl) hown
    rw [Nat.mul_one] at r0
    have hb2 : Below w.heap.size w w2 := (Below.refl _ _).grown hgrow (Nat.le_refl _) (fun k hk => by cases hk)
    have HR := Lib.hid (And.intro r0 hb2)
    clear r0 hb2 hown hgrow
    go_loopw [4] (fun s4 wr => CloneRel (Value.int .u32) (.int .u32 0) xs 31 len w s4 wr) (fun s4 _ => len - (intOf s4).toNat)
    case atStart => exact ⟨0, Nat.zero_le _, rfl, HR.out⟩
    case round =>
      obtain ⟨k, hk, rfl, hr, hb⟩ := hrel
      have HRB := Lib.hid (And.intro hr hb)
      by_cases hlt : k < len
      · obtain ⟨x', u, hx, hu, hc⟩ := (H0.out.up hb).get hlt
        obtain rfl : x = x' := Option.some.inj hx
        have c0 := hr.cell hlt
        have f0 := hr.frozen k
        have hrl := hr.lt
        have HU := Lib.hid hu
        clear hu hr hb hx
        go_wp2_with fail
        go_roundw
        case rel => exact ⟨k + 1, by omega, by go_num, (HRB.out.1.set k _).congr (fun j _ => part_next HU.out j), HRB.out.2.setCell (p := ⟨w.heap.size, k, none⟩) (Nat.le_refl _) _⟩
        case measure => simp [intOf]; omega
      · clear hr hb
        go_wp2_with fail
        go_ret
        exact ⟨_, _, rfl, row_in HRB.out.1 (by unfold maxLen; omega) (by rw [List.length_map]; exact HL.out) (part_all (by have := HL.out; omega)), HRB.out.2⟩

end Go.Proofs.YtejdbjfniepomaaFmt
