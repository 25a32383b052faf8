/-
  The contracts of the cloning functions and of the making of entries; conditions: those that each names.
-/
import Derived.Test.YtcpaepfhjhcaoaaDoorMdl
import Derived.OwnWalk
namespace Go.Proofs.YtcpaepfhjhcaoaaDoor
open Go.RowKit

theorem row_in {w : World} {g n : Nat} {t : TypeId} {f : Nat → Value} {vs : List Value} (h : Row w g t n f) (hn : n ≤ maxLen) (hl : vs.length = n) (hf : ∀ i u, vs[i]? = some u → f i = u) : InRow w (some ⟨g, 0, none⟩) n n vs := by
  refine .inr ⟨_, rfl, Nat.le_refl _, hn, hl, fun i u hu => ?_⟩
  have hi : i < n := by have := (List.getElem?_eq_some_iff.1 hu).1; omega
  have := h.cell hi
  rw [hf i u hu] at this
  have e : (⟨g, 0, none⟩ : Addr).add i = ⟨g, i, none⟩ := by
    unfold Addr.add
    split
    · next h0 => rw [h0]
    · simp
  rw [e]
  exact this

/-- What a cloned row holds when k of its elements are laid. -/
def part {α : Type} (con : α → Value) (z : Value) (xs : List α) (k j : Nat) : Value := if j < k then (xs.map con).getD j z else z
theorem part_next {α : Type} {con : α → Value} {z : Value} {xs : List α} {k : Nat} {u : α} (hu : xs[k]? = some u) (j : Nat) : (if j = k then con u else part con z xs k j) = part con z xs (k + 1) j := by
  unfold part
  by_cases e : j = k
  · subst e
    rw [if_pos rfl, if_pos (by omega), List.getD_eq_getElem?_getD, List.getElem?_map, hu]
    rfl
  · rw [if_neg e]
    by_cases h : j < k
    · rw [if_pos h, if_pos (by omega)]
    · rw [if_neg h, if_neg (by omega)]
theorem part_all {α : Type} {con : α → Value} {z : Value} {xs : List α} {k : Nat} (hk : k = xs.length) (i : Nat) (u : Value) (hu : (xs.map con)[i]? = some u) : part con z xs k i = u := by
  unfold part
  rw [if_pos (by have := (List.getElem?_eq_some_iff.1 hu).1; simp at this; omega), List.getD_eq_getElem?_getD, hu]
  rfl
def CloneRel {α : Type} (con : α → Value) (z : Value) (xs : List α) (t : TypeId) (len : Nat) (w : World) (s : Value) (wr : World) : Prop :=
  ∃ k : Nat, k ≤ len ∧ s = .int .i64 k ∧ Row wr w.heap.size t len (part con z xs k) ∧ Below w.heap.size w wr
def CloneEnd (vs : List Value) (len : Nat) (w : World) (e : Ending) (w' : World) : Prop := ∃ A cap, e = .returned (.slice A len cap) ∧ InRow w' A len cap vs ∧ Below w.heap.size w w'

theorem info9 : (Tryd.prog.info? 9).map (fun i => (i.zero, i.size, i.bytes)) = some (some (.string ⟨#[]⟩), 1, 16) := by kernel_rfl
set_option maxHeartbeats 1000000 in
set_option maxRecDepth 100000 in
theorem cloneS (a : Option Addr) (len cap : Nat) (xs : List ByteArray) (w : World) (h : InRow w a len cap (xs.map Value.string)) (hl : len ≤ 1048576) : Calls Tryd.prog 7 #[.slice a len cap] w (CloneEnd (xs.map Value.string) len w) := by
  have hlen := h.len
  rw [List.length_map] at hlen
  cases a with
  | none =>
    obtain ⟨rfl, rfl⟩ : len = 0 ∧ cap = 0 := by
      rcases h with ⟨_, h1, h2, _⟩ | ⟨x, h1, _⟩
      · exact ⟨h1, h2⟩
      · cases h1
    obtain rfl : xs = [] := List.eq_nil_of_length_eq_zero hlen
    have q := Lib.run_eql_slice_nil (P := Tryd.prog)
    go_enter Tryd.func7, Tryd.ntmps7
    go_wp2
    go_ret
    exact ⟨none, 0, rfl, .inl ⟨rfl, rfl, rfl, rfl⟩, Below.refl _ _⟩
  | some x =>
    obtain ⟨i0, hi, hz0, hz1, hz2⟩ := info_parts info9
    have HI := Lib.hid (And.intro hi (And.intro hz0 (And.intro hz1 hz2)))
    have H0 := Lib.hid h
    have HL := Lib.hid hlen
    clear hi hz0 hz1 hz2 h hlen
    have q := Lib.run_eql_slice_nil (P := Tryd.prog)
    go_enter Tryd.func7, Tryd.ntmps7
    go_wp2_with (at_make; refine wpList_make_full _ rfl (.tmp 8) (.tmp 8) 22 rfl w.heap.size 9 i0 (.string ⟨#[]⟩) 1 Tryd.underlying22 HI.out.1 HI.out.2.1 HI.out.2.2.1 _ _ _ _ len rfl rfl rfl rfl (by rw [HI.out.2.2.2]; omega) (by unfold maxLen; omega) (Nat.le_refl _) ?_; intro w2 hown hgrow)
    have r0 : Row w2 w.heap.size 9 (len * 1) (part Value.string (.string ⟨#[]⟩) xs 0) := row_made (size := 1) rfl (by decide) _ (fun i _ => by
      rw [Nat.mod_one]; rfl) hown
    rw [Nat.mul_one] at r0
    have hb2 : Below w.heap.size w w2 := (Below.refl _ _).grown hgrow (Nat.le_refl _) (fun k hk => by cases hk)
    have HR := Lib.hid (And.intro r0 hb2)
    clear r0 hb2 hown hgrow
    go_loopw [4] (fun s4 wr => CloneRel Value.string (.string ⟨#[]⟩) xs 9 len w s4 wr) (fun s4 _ => len - (intOf s4).toNat)
    case atStart => exact ⟨0, Nat.zero_le _, rfl, HR.out⟩
    case round =>
      obtain ⟨k, hk, rfl, hr, hb⟩ := hrel
      have HRB := Lib.hid (And.intro hr hb)
      by_cases hlt : k < len
      · obtain ⟨x', u, hx, hu, hc⟩ := (H0.out.up hb).get hlt
        obtain rfl : x = x' := Option.some.inj hx
        have c0 := hr.cell hlt
        have f0 := hr.frozen k
        have hrl := hr.lt
        have HU := Lib.hid hu
        clear hu hr hb hx
        go_wp2_with fail
        go_roundw
        case rel => exact ⟨k + 1, by omega, by go_num, (HRB.out.1.set k _).congr (fun j _ => part_next HU.out j), HRB.out.2.setCell (p := ⟨w.heap.size, k, none⟩) (Nat.le_refl _) _⟩
        case measure => simp [intOf]; omega
      · clear hr hb
        go_wp2_with fail
        go_ret
        exact ⟨_, _, rfl, row_in HRB.out.1 (by unfold maxLen; omega) (by rw [List.length_map]; exact HL.out) (part_all (by have := HL.out; omega)), HRB.out.2⟩

theorem info4 : (Tryd.prog.info? 4).map (fun i => (i.zero, i.size, i.bytes)) = some (some (.bool false), 1, 1) := by kernel_rfl
set_option maxHeartbeats 1000000 in
set_option maxRecDepth 100000 in
theorem cloneB (a : Option Addr) (len cap : Nat) (xs : List Bool) (w : World) (h : InRow w a len cap (xs.map Value.bool)) (hl : len ≤ 1048576) : Calls Tryd.prog 8 #[.slice a len cap] w (CloneEnd (xs.map Value.bool) len w) := by
  have hlen := h.len
  rw [List.length_map] at hlen
  cases a with
  | none =>
    obtain ⟨rfl, rfl⟩ : len = 0 ∧ cap = 0 := by
      rcases h with ⟨_, h1, h2, _⟩ | ⟨x, h1, _⟩
      · exact ⟨h1, h2⟩
      · cases h1
    obtain rfl : xs = [] := List.eq_nil_of_length_eq_zero hlen
    have q := Lib.run_eql_slice_nil (P := Tryd.prog)
    go_enter Tryd.func8, Tryd.ntmps8
    go_wp2
    go_ret
    exact ⟨none, 0, rfl, .inl ⟨rfl, rfl, rfl, rfl⟩, Below.refl _ _⟩
  | some x =>
    obtain ⟨i0, hi, hz0, hz1, hz2⟩ := info_parts info4
    have HI := Lib.hid (And.intro hi (And.intro hz0 (And.intro hz1 hz2)))
    have H0 := Lib.hid h
    have HL := Lib.hid hlen
    clear hi hz0 hz1 hz2 h hlen
    have q := Lib.run_eql_slice_nil (P := Tryd.prog)
    go_enter Tryd.func8, Tryd.ntmps8
    go_wp2_with (at_make; refine wpList_make_full _ rfl (.tmp 8) (.tmp 8) 23 rfl w.heap.size 4 i0 (.bool false) 1 Tryd.underlying23 HI.out.1 HI.out.2.1 HI.out.2.2.1 _ _ _ _ len rfl rfl rfl rfl (by rw [HI.out.2.2.2]; omega) (by unfold maxLen; omega) (Nat.le_refl _) ?_; intro w2 hown hgrow)
    have r0 : Row w2 w.heap.size 4 (len * 1) (part Value.bool (.bool false) xs 0) := row_made (size := 1) rfl (by decide) _ (fun i _ => by
      rw [Nat.mod_one]; rfl) hown
    rw [Nat.mul_one] at r0
    have hb2 : Below w.heap.size w w2 := (Below.refl _ _).grown hgrow (Nat.le_refl _) (fun k hk => by cases hk)
    have HR := Lib.hid (And.intro r0 hb2)
    clear r0 hb2 hown hgrow
    go_loopw [4] (fun s4 wr => CloneRel Value.bool (.bool false) xs 4 len w s4 wr) (fun s4 _ => len - (intOf s4).toNat)
    case atStart => exact ⟨0, Nat.zero_le _, rfl, HR.out⟩
    case round =>
      obtain ⟨k, hk, rfl, hr, hb⟩ := hrel
      have HRB := Lib.hid (And.intro hr hb)
      by_cases hlt : k < len
      · obtain ⟨x', u, hx, hu, hc⟩ := (H0.out.up hb).get hlt
        obtain rfl : x = x' := Option.some.inj hx
        have c0 := hr.cell hlt
        have f0 := hr.frozen k
        have hrl := hr.lt
        have HU := Lib.hid hu
        clear hu hr hb hx
        go_wp2_with fail
        go_roundw
        case rel => exact ⟨k + 1, by omega, by go_num, (HRB.out.1.set k _).congr (fun j _ => part_next HU.out j), HRB.out.2.setCell (p := ⟨w.heap.size, k, none⟩) (Nat.le_refl _) _⟩
        case measure => simp [intOf]; omega
      · clear hr hb
        go_wp2_with fail
        go_ret
        exact ⟨_, _, rfl, row_in HRB.out.1 (by unfold maxLen; omega) (by rw [List.length_map]; exact HL.out) (part_all (by have := HL.out; omega)), HRB.out.2⟩


/-! ### Entries -/
theorem wpList_make_any {P : Program} (w : World) {ops : Array Oper} {rest : List Oper} {o : Oper} {a : Act} {Q : Exit → Act → World → Prop}
    (hg : o.guard = none) (l c : Operand) (t : TypeId) (hop : o.op = Op.makeSlice t l c)
    (e : TypeId) (i : TypeInfo) (z : Value) (size : Nat) (h1 : P.underlying t = some (.slice e)) (h2 : P.info? e = some i) (h3 : i.zero = some z) (h4 : i.size = size)
    (kl kc : IntKind) (L C : Int) (n m : Nat) (hl : a.eval l = .int kl L) (hc : a.eval c = .int kc C) (hL : L = (n : Int)) (hC : C = (m : Int)) (hnm : n ≤ m) (b2 : i.bytes * m ≤ 281474976710656) (b3 : m ≤ maxLen)
    (hK : wpList P ops Q rest (a.put o.dst (.slice (some ⟨w.heap.size, 0, none⟩) n m)) (w.alloc (.cells (madeCells z.cells (m * size)) e))) :
    wpList P ops Q (o :: rest) a w := by
  refine wpList_plain hg fun K hK' => ?_
  subst hL
  subst hC
  subst h4
  have h63' : (m : Int) ≤ 9223372036854775807 := by
    have h := b3
    simp [maxLen] at h
    omega
  have hb' : (i.bytes : Int) * (m : Int) ≤ 281474976710656 := by
    have h : ((i.bytes * m : Nat) : Int) ≤ 281474976710656 := by omega
    rwa [Int.natCast_mul] at h
  have hrun := run_make (P := P) w t e i z h1 h2 h3 kl kc n m (by omega) (by omega) hb' h63'
  simp only [Int.toNat_natCast] at hrun
  unfold Oper.wp
  simp [execOp, hop, hl, hc, hrun, Result.andThen]
  exact hK' _ _ hK
theorem infoEnt : (Tryd.prog.info? 36).map (fun i => (i.zero, i.size, i.bytes)) = some (some (.agg #[.string ⟨#[]⟩, .int .u32 0, .bool false]), 3, 24) := by kernel_rfl
/-- The cells of the entries, k of them laid. -/
def entF (f : Nat → ByteArray × Bool) (k j : Nat) : Value :=
  if j % 3 = 0 then .string (if j / 3 < k then (f (j / 3)).1 else ⟨#[]⟩) else if j % 3 = 1 then .int .u32 0 else .bool (if j / 3 < k then (f (j / 3)).2 else false)
def EntRel (f : Nat → ByteArray × Bool) (n c : Nat) (w : World) (s : Value) (wr : World) : Prop :=
  ∃ k : Nat, k ≤ n ∧ s = .int .i64 k ∧ Row wr w.heap.size 36 (c * 3) (entF f k) ∧ Below w.heap.size w wr
theorem entF_next {f : Nat → ByteArray × Bool} {k : Nat} (j : Nat) : (if j = k * 3 + 2 then Value.bool (f k).2 else if j = k * 3 + 1 then Value.int .u32 0 else if j = k * 3 then Value.string (f k).1 else entF f k j) = entF f (k + 1) j := by
  unfold entF
  by_cases h2 : j = k * 3 + 2
  · subst h2
    have e1 : (k * 3 + 2) % 3 = 2 := by omega
    have e2 : (k * 3 + 2) / 3 = k := by omega
    rw [if_pos rfl, e1, e2, if_neg (by decide), if_neg (by decide), if_pos (by omega)]
  · rw [if_neg h2]
    by_cases h1 : j = k * 3 + 1
    · subst h1
      have e1 : (k * 3 + 1) % 3 = 1 := by omega
      rw [if_pos rfl, e1, if_neg (by decide), if_pos rfl]
    · rw [if_neg h1]
      by_cases h0 : j = k * 3
      · subst h0
        have e1 : (k * 3) % 3 = 0 := by omega
        have e2 : (k * 3) / 3 = k := by omega
        rw [if_pos rfl, e1, e2, if_pos rfl, if_pos (by omega)]
      · rw [if_neg h0]
        by_cases hlt : j / 3 < k
        · have h' : j / 3 < k + 1 := by omega
          simp only [if_pos hlt, if_pos h']
        · have h' : ¬ j / 3 < k + 1 := by omega
          simp only [if_neg hlt, if_neg h']
/-- Block g holds these entries. -/
def EntRow (w : World) (g : Nat) (es : List (ByteArray × Bool)) : Prop := ∀ i p, es[i]? = some p → w.cell? ⟨g, i * 3, none⟩ = some (.string p.1) ∧ w.cell? ⟨g, i * 3 + 1, none⟩ = some (.int .u32 0) ∧ w.cell? ⟨g, i * 3 + 2, none⟩ = some (.bool p.2)
theorem EntRow.up {w w' : World} {g : Nat} {es : List (ByteArray × Bool)} (h : EntRow w g es) (hb : Below w.heap.size w w') : EntRow w' g es := by
  intro i p hp
  obtain ⟨h1, h2, h3⟩ := h i p hp
  exact ⟨(hb.cell (World.block_lt_of_cell? w _ h1)).trans h1, (hb.cell (World.block_lt_of_cell? w _ h2)).trans h2, (hb.cell (World.block_lt_of_cell? w _ h3)).trans h3⟩
theorem entRow_of {w : World} {g t n c : Nat} {f : Nat → ByteArray × Bool} (h : Row w g t (c * 3) (entF f n)) (hn : n ≤ c) (es : List (ByteArray × Bool)) (hl : es.length = n) (hf : ∀ i p, es[i]? = some p → f i = p) : EntRow w g es := by
  intro i p hp
  have hi : i < n := by have := (List.getElem?_eq_some_iff.1 hp).1; omega
  have hfi := hf i p hp
  refine ⟨?_, ?_, ?_⟩
  · rw [h.cell (show i * 3 < c * 3 by omega)]
    unfold entF
    have e1 : (i * 3) % 3 = 0 := by omega
    have e2 : (i * 3) / 3 = i := by omega
    rw [e1, e2, if_pos rfl, if_pos hi, hfi]
  · rw [h.cell (show i * 3 + 1 < c * 3 by omega)]
    unfold entF
    have e1 : (i * 3 + 1) % 3 = 1 := by omega
    rw [e1, if_neg (by decide), if_pos rfl]
  · rw [h.cell (show i * 3 + 2 < c * 3 by omega)]
    unfold entF
    have e1 : (i * 3 + 2) % 3 = 2 := by omega
    have e2 : (i * 3 + 2) / 3 = i := by omega
    rw [e1, e2, if_neg (by decide), if_neg (by decide), if_pos hi, hfi]
/-- The pairs of the two lists, as far as both go. -/
def pairs (ss : List ByteArray) (au : List Bool) : List (ByteArray × Bool) := ss.zip au
def pairF (ss : List ByteArray) (au : List Bool) (i : Nat) : ByteArray × Bool := (ss.getD i ⟨#[]⟩, au.getD i false)
theorem pairs_get {ss : List ByteArray} {au : List Bool} {i : Nat} {p : ByteArray × Bool} (h : (pairs ss au)[i]? = some p) : pairF ss au i = p := by
  unfold pairs at h
  rw [List.getElem?_zip_eq_some] at h
  unfold pairF
  rw [List.getD_eq_getElem?_getD, List.getD_eq_getElem?_getD, h.1, h.2]
  rfl
theorem pairs_len (ss : List ByteArray) (au : List Bool) : (pairs ss au).length = min ss.length au.length := by simp [pairs]
theorem ent_zero (f : Nat → ByteArray × Bool) (n : Nat) : ∀ i, i < n * 3 → (madeCells (Value.agg #[.string ⟨#[]⟩, .int .u32 0, .bool false]).cells (n * 3))[i]? = some (entF f 0 i) := by
  intro i hi
  rw [← Array.getElem?_toList, made_cell _ _ _ (by decide) hi]
  unfold entF
  have h3 : i % 3 = 0 ∨ i % 3 = 1 ∨ i % 3 = 2 := by omega
  have hs : (Value.agg #[.string ⟨#[]⟩, .int .u32 0, .bool false]).cells.size = 3 := rfl
  rw [hs]
  rcases h3 with h | h | h
  · rw [h, if_pos rfl, if_neg (by omega)]; rfl
  · rw [h, if_neg (by decide), if_pos rfl]; rfl
  · rw [h, if_neg (by decide), if_neg (by decide), if_neg (by omega)]; rfl
/-- What the making of entries leaves. -/
def EntEnd (ss : List ByteArray) (au : List Bool) (n c : Nat) (w : World) (e : Ending) (w' : World) : Prop :=
  e = .returned (.slice (some ⟨w.heap.size, 0, none⟩) n c) ∧ Row w' w.heap.size 36 (c * 3) (entF (pairF ss au) n) ∧ Below w.heap.size w w'

set_option maxHeartbeats 2000000 in
set_option maxRecDepth 100000 in
theorem entries_any (a0 a1 : Option Addr) (l0 c0 l1 c1 : Nat) (ss : List ByteArray) (au : List Bool) (n x : Nat) (w : World) (h0 : InRow w a0 l0 c0 (ss.map Value.string)) (h1 : InRow w a1 l1 c1 (au.map Value.bool)) (hn : n = min l0 l1) (hl : l0 ≤ 4096) (hx : x ≤ 4096) :
    Calls Tryd.prog 10 #[.slice a0 l0 c0, .slice a1 l1 c1, .int .i64 n, .int .i64 x] w (EntEnd ss au n (n + x) w) := by
  have hlen := h0.len
  have hlen1 := h1.len
  rw [List.length_map] at hlen hlen1
  have n0 : n ≤ l0 := by omega
  have n1 : n ≤ l1 := by omega
  have H0 := Lib.hid h0
  have H1 := Lib.hid h1
  obtain ⟨i0, hi, hz0, hz1, hz2⟩ := info_parts infoEnt
  have HI := Lib.hid (And.intro hi (And.intro hz0 (And.intro hz1 hz2)))
  clear hi hz0 hz1 hz2 h0 h1 hlen hlen1 hn
  go_enter Tryd.func10, Tryd.ntmps10
  go_wp2_with (at_make; refine wpList_make_any _ rfl _ _ 29 rfl 36 i0 (.agg #[.string ⟨#[]⟩, .int .u32 0, .bool false]) 3 Tryd.underlying29 HI.out.1 HI.out.2.1 HI.out.2.2.1 _ _ _ _ n (n + x) rfl rfl rfl (by omega) (by omega) (by rw [HI.out.2.2.2]; omega) (by unfold maxLen; omega) ?_)
  have hr0 := Lib.hid (Row.new w 36 (madeCells (Value.agg #[.string ⟨#[]⟩, .int .u32 0, .bool false]).cells ((n + x) * 3)) ((n + x) * 3) (entF (pairF ss au) 0) (size_madeCells _ _) (ent_zero _ _))
  have hb0 := Lib.hid ((Below.refl w.heap.size w).alloc (Nat.le_refl _) (.cells (madeCells (Value.agg #[.string ⟨#[]⟩, .int .u32 0, .bool false]).cells ((n + x) * 3)) 36))
  go_loopw [10] (fun s wr => EntRel (pairF ss au) n (n + x) w s wr) (fun s _ => n - (intOf s).toNat)
  case atStart => exact ⟨0, Nat.zero_le _, rfl, hr0.out, hb0.out⟩
  case round =>
    obtain ⟨k, hk, rfl, hr, hb⟩ := hrel
    have HRB := Lib.hid (And.intro hr hb)
    clear hr0 hb0
    by_cases hlt : k < n
    · obtain ⟨y, s, rfl, hsk, hc⟩ := (H0.out.up hb).get (show k < l0 by omega)
      obtain ⟨z, b, rfl, hbk, hd⟩ := (H1.out.up hb).get (show k < l1 by omega)
      have lt0 : k < l0 := by omega
      have lt1 : k < l1 := by omega
      have e0 := hr.cell (show k * 3 < (n + x) * 3 by omega)
      have e1 := hr.cell (show k * 3 + 1 < (n + x) * 3 by omega)
      have e2 := hr.cell (show k * 3 + 2 < (n + x) * 3 by omega)
      have f0 := hr.frozen (k * 3)
      have f1 := hr.frozen (k * 3 + 1)
      have f2 := hr.frozen (k * 3 + 2)
      have hrl := hr.lt
      have HK := Lib.hid (And.intro hsk hbk)
      clear hsk hbk hr hb
      go_wp2_with fail
      go_region
      go_wp2_with fail
      have hpf : pairF ss au k = (s, b) := by
        unfold pairF
        rw [List.getD_eq_getElem?_getD, List.getD_eq_getElem?_getD, HK.out.1, HK.out.2]
        rfl
      have hrow := (((HRB.out.1.set (k * 3) (.string s)).set (k * 3 + 1) (.int .u32 0)).set (k * 3 + 2) (.bool b)).congr (f' := entF (pairF ss au) (k + 1)) (fun j _ => by
        have := entF_next (f := pairF ss au) (k := k) j
        rw [hpf] at this
        exact this)
      have hbel := (((HRB.out.2.setCell (p := ⟨w.heap.size, k * 3, none⟩) (Nat.le_refl _) (.string s)).setCell (p := ⟨w.heap.size, k * 3 + 1, none⟩) (Nat.le_refl _) (.int .u32 0)).setCell (p := ⟨w.heap.size, k * 3 + 2, none⟩) (Nat.le_refl _) (.bool b)).drew
      go_roundw
      case rel => exact ⟨k + 1, by omega, by go_num, hrow, hbel⟩
      case measure => simp [intOf]; omega
    · clear hr hb
      obtain rfl : k = n := by omega
      go_wp2_with fail
      go_ret
      exact ⟨rfl, HRB.out.1, HRB.out.2⟩
end Go.Proofs.YtcpaepfhjhcaoaaDoor
