/-
  The contract of zzBuild: a statement for each code, in memory of the call's own; conditions: at most 65536 codes.
-/
import Derived.Test.YtolpgogmbebmcaaCare
import Derived.Test.YtolpgogmbebmcaaRow
import Derived.Deep.QuietTactic
import Derived.BigQuiet
import Derived.OpenShut
namespace Go.Proofs.Ytolpgogmbebmcaa
open Go.RowKit

/-- A slice of numbers that came in: nil, or a row of 'cap' cells that hold zs (its first 'len' are the elements). -/
def IsRow (k : IntKind) (w : World) (a : Option Addr) (len cap : Nat) (zs : List Int) : Prop :=
  (a = none ∧ len = 0 ∧ cap = 0 ∧ zs = []) ∨
  ∃ x, a = some x ∧ len ≤ cap ∧ cap ≤ maxLen ∧ zs.length = cap ∧ (∀ i, i < zs.length → w.cell? (x.add i) = some (.int k (zs.getD i 0))) ∧ ∀ n ∈ zs, (Lit.int k n).wf = true

/-- The cells of statements: data, location. -/
def sc (D : Nat → Value) (L : Nat → Int) (j : Nat) : Value := if j % 2 = 0 then D (j / 2) else .int .i32 (L (j / 2))

def BuildPost (n : Nat) (zs : List Int) (w : World) (e : Ending) (w' : World) : Prop :=
  ∃ D, e = .returned (.slice (some ⟨w.heap.size, 0, none⟩) n n) ∧ Row w' w.heap.size 32 (n * 2) (sc D (fun i => (i : Int) + 1)) ∧ (∀ i, i < n → IsKind w' (w.heap.size + 1) (norm (zs.getD i 0)) (D i)) ∧ Below w.heap.size w w'

theorem IsKind.one {w : World} {B k : Nat} {v : Value} (h : IsKind w B k v) : v.oneCell' = true := by
  rcases h with ⟨_, rfl⟩ | ⟨_, b, rfl, _⟩ <;> rfl

theorem IsKind.mono {w : World} {B B' k : Nat} {v : Value} (h : IsKind w B k v) (hB : B' ≤ B) : IsKind w B' k v := by
  rcases h with h | ⟨hk, b, hv, hb, hl, hc⟩
  · exact .inl h
  · exact .inr ⟨hk, b, hv, Nat.le_trans hB hb, hl, hc⟩
theorem IsKind.setCell {w : World} {B k : Nat} {v : Value} (h : IsKind w B k v) {p : Addr} (hp : p.block < B) (u : Value) : IsKind (w.setCell p u) B k v := by
  rcases h with h | ⟨hk, b, hv, hb, hl, hc⟩
  · exact .inl h
  · refine .inr ⟨hk, b, hv, hb, by simpa [World.setCell] using hl, fun h1 h2 => ?_⟩
    rw [World.cell?_setCell_other w p ⟨b, 1, none⟩ u (fun e => by subst e; exact absurd hp (by show ¬ b < B; omega))]
    exact hc h1 h2

theorem sc_even (D : Nat → Value) (L : Nat → Int) (i : Nat) : sc D L (i * 2) = D i := by
  unfold sc
  rw [if_pos (by omega), show i * 2 / 2 = i by omega]
theorem sc_odd (D : Nat → Value) (L : Nat → Int) (i : Nat) : sc D L (i * 2 + 1) = .int .i32 (L i) := by
  unfold sc
  rw [if_neg (by omega), show (i * 2 + 1) / 2 = i by omega]
theorem sc_congr {D D' : Nat → Value} {L L' : Nat → Int} {n : Nat} (h : ∀ i, i < n → D i = D' i ∧ L i = L' i) : ∀ j, j < n * 2 → sc D L j = sc D' L' j := by
  intro j hj
  unfold sc
  obtain ⟨h1, h2⟩ := h (j / 2) (by omega)
  rw [h1, h2]
/-- One statement stored. -/
theorem row_stmt {w : World} {g n i : Nat} {D : Nat → Value} {L : Nat → Int} (h : Row w g 32 (n * 2) (sc D L)) (v : Value) (l : Int) :
    Row ((w.setCell ⟨g, i * 2, none⟩ v).setCell ⟨g, i * 2 + 1, none⟩ (.int .i32 l)) g 32 (n * 2) (sc (fun j => if j = i then v else D j) (fun j => if j = i then l else L j)) := by
  refine ((h.set (i * 2) v).set (i * 2 + 1) (.int .i32 l)).congr fun j _ => ?_
  obtain ⟨q, rfl | rfl⟩ : ∃ q, j = q * 2 ∨ j = q * 2 + 1 := ⟨j / 2, by omega⟩
  · rw [sc_even (fun j => if j = i then v else D j), if_neg (by omega)]
    by_cases e : q = i
    · subst e
      rw [if_pos rfl, if_pos rfl]
    · rw [if_neg (by omega), if_neg e, sc_even]
  · rw [sc_odd (fun j => if j = i then v else D j)]
    by_cases e : q = i
    · subst e
      rw [if_pos rfl, if_pos rfl]
    · rw [if_neg (by omega), if_neg (by omega), if_neg e, sc_odd]

theorem info32 : (Try.prog.info? 32).map (fun i => (i.zero, i.size, i.bytes)) = some (some (.agg #[.nilIface, .int .i32 0]), 2, 24) := by kernel_rfl

theorem block_of_add (a : Addr) (n : Nat) : (a.add n).block = a.block := by unfold Addr.add; split <;> rfl

set_option maxHeartbeats 1000000 in
theorem build_some (x : Addr) (n cap : Nat) (zs : List Int) (w : World) (hn : n ≤ 65536) (hl : n ≤ zs.length) (hc : ∀ i, i < zs.length → w.cell? (x.add i) = some (.int .i8 (zs.getD i 0))) (hw : ∀ m ∈ zs, (Lit.int .i8 m).wf = true) :
    Calls Try.prog 9 #[.slice (some x) n cap] w (BuildPost n zs w) := by
  have hnl := fun wx (a : Option Addr) (n c : Nat) => Lib.run_eql_slice_nil (P := Try.prog) wx 23 22 a n c 0 0 Try.underlying23
  obtain ⟨i0, hi0, hz0, hz1, hz2⟩ := info_parts info32
  have HI := Lib.hid (And.intro hi0 (And.intro hz0 (And.intro hz1 hz2)))
  have HC := Lib.hid hc
  have HW := Lib.hid hw
  clear hi0 hz0 hz1 hz2 hc hw
  go_enter Try.func9, Try.ntmps9
  go_wp2_with (at_make; refine wpList_make_full _ rfl (.tmp 8) (.tmp 8) 33 rfl w.heap.size 32 i0 (.agg #[.nilIface, .int .i32 0]) 2 Try.underlying33 HI.out.1 HI.out.2.1 HI.out.2.2.1 _ _ _ _ n rfl rfl rfl rfl (by rw [HI.out.2.2.2]; omega) (by unfold maxLen; omega) (Nat.le_refl _) ?_; intro w1 hown hgrow)
  have r0 : Row w1 w.heap.size 32 (n * 2) (sc (fun _ => .nilIface) (fun _ => 0)) := row_made (size := 2) rfl (by decide) _ (fun i _ => by
    show (#[Value.nilIface, Value.int .i32 0] : Array Value)[i % 2]? = _
    unfold sc
    have : i % 2 = 0 ∨ i % 2 = 1 := by omega
    rcases this with h | h <;> rw [h] <;> rfl) hown
  have hb1 : Below w.heap.size w w1 := (Below.refl _ _).grown hgrow (Nat.le_refl _) (fun k hk => by cases hk)
  clear hown hgrow
  go_loopw [4] (fun i wr => ∃ (k : Nat) (D : Nat → Value), k ≤ n ∧ i = .int .i64 k ∧ Row wr w.heap.size 32 (n * 2) (sc D (fun i => if i < k then (i : Int) + 1 else 0)) ∧ (∀ i, i < k → IsKind wr (w.heap.size + 1) (norm (zs.getD i 0)) (D i)) ∧ Below w.heap.size w wr) (fun i _ => n - (intOf i).toNat)
  case atStart => exact ⟨0, fun _ => .nilIface, Nat.zero_le _, rfl, r0, fun i h => absurd h (Nat.not_lt_zero _), hb1⟩
  case round =>
    clear r0 hb1
    obtain ⟨k, D, hk, rfl, hr, hd, hb⟩ := hrel
    by_cases hlt : k < n
    · have c0 := HC.out k (by omega)
      have hxb : x.block < w.heap.size := by
        have := World.block_lt_of_cell? w _ c0
        rwa [block_of_add] at this
      have c1 : wr.cell? (x.add k) = some (.int .i8 (zs.getD k 0)) := by rw [hb.cell (by rw [block_of_add]; exact hxb)]; exact c0
      have hbd := HW.out (zs.getD k 0) (by rw [List.getD_eq_getElem?_getD, List.getElem?_eq_getElem (by omega)]; exact List.getElem_mem _)
      have HD := Lib.hid hd
      clear hd c0
      generalize hcz : zs.getD k 0 = c at c1 hbd
      have HCZ := Lib.hid hcz
      obtain ⟨bl, bh⟩ := bounds_i8 hbd
      clear hcz hbd
      have d0 := hr.cell (i := k * 2) (by omega)
      have d1 := hr.cell (i := k * 2 + 1) (by omega)
      have z0 := hr.frozen (k * 2)
      have z1 := hr.frozen (k * 2 + 1)
      go_wp2_with fail
      refine (norm_any c _ bl bh).mono ?_
      rintro e w' ⟨rfl, rfl⟩
      go_wp2_with fail
      refine (make_any (norm c) (norm_le c) _ _).mono ?_
      rintro e w2 ⟨v, rfl, hv, hb2⟩
      have e0 : w2.cell? ⟨w.heap.size, k * 2, none⟩ = some (sc D (fun i => if i < k then (i : Int) + 1 else 0) (k * 2)) := by rw [hb2.cell (p := ⟨w.heap.size, k * 2, none⟩) hr.lt]; exact d0
      have e1 : w2.cell? ⟨w.heap.size, k * 2 + 1, none⟩ = some (sc D (fun i => if i < k then (i : Int) + 1 else 0) (k * 2 + 1)) := by rw [hb2.cell (p := ⟨w.heap.size, k * 2 + 1, none⟩) hr.lt]; exact d1
      have f0 : w2.frozen? ⟨w.heap.size, k * 2, none⟩ = false := by rw [hb2.frozen (p := ⟨w.heap.size, k * 2, none⟩) hr.lt]; exact z0
      have f1 : w2.frozen? ⟨w.heap.size, k * 2 + 1, none⟩ = false := by rw [hb2.frozen (p := ⟨w.heap.size, k * 2 + 1, none⟩) hr.lt]; exact z1
      have hsz := hb2.size
      have hlt2 := hr.lt
      have hst : (store ⟨w.heap.size, k * 2, none⟩ v).run Try.prog w2 = .ok () (w2.setCell ⟨w.heap.size, k * 2, none⟩ v) := by
        rw [run_store Try.prog w2 _ v _ hv.one]
        simp [e0, f0]
      go_wp2_with fail
      have hr2 := row_stmt (i := k) (hr.below hb2 hr.lt) v ((k : Int) + 1)
      refine ⟨⟨k + 1, fun j => if j = k then v else D j, by omega, by go_num, hr2.congr (sc_congr fun i _ => ⟨rfl, ?_⟩), ?_, ?_⟩, by simp [intOf]; omega⟩
      · by_cases e : i = k
        · subst e
          rw [if_pos rfl, if_pos (by omega)]
        · rw [if_neg e]
          by_cases e2 : i < k
          · rw [if_pos e2, if_pos (by omega)]
          · rw [if_neg e2, if_neg (by omega)]
      · intro i hi
        show IsKind _ _ _ (if i = k then v else D i)
        by_cases e : i = k
        · subst e
          rw [if_pos rfl, HCZ.out]
          exact ((hv.mono (by omega)).setCell (p := ⟨w.heap.size, _, none⟩) (by show w.heap.size < _; omega) _).setCell (p := ⟨w.heap.size, _, none⟩) (by show w.heap.size < _; omega) _
        · rw [if_neg e]
          exact (((HD.out i (by omega)).below hb2).setCell (p := ⟨w.heap.size, _, none⟩) (by show w.heap.size < _; omega) _).setCell (p := ⟨w.heap.size, _, none⟩) (by show w.heap.size < _; omega) _
      · exact ((hb.trans (hb2.mono (by omega))).setCell (p := ⟨w.heap.size, _, none⟩) (Nat.le_refl _) _).setCell (p := ⟨w.heap.size, _, none⟩) (Nat.le_refl _) _
    · go_wp2_with fail
      go_ret
      refine ⟨D, rfl, hr.congr (sc_congr fun i hi => ⟨rfl, by rw [if_pos (by omega)]⟩), fun i hi => hd i (by omega), hb⟩
end Go.Proofs.Ytolpgogmbebmcaa
