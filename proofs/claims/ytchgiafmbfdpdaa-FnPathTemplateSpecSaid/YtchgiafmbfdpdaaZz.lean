/-
  The contract of the shim over validatePathTemplate: the parts' texts and placeholders as two slices of the call's own; conditions: the template is at most 1 MiB long.
-/
import Derived.Test.YtchgiafmbfdpdaaVal
namespace Go.Proofs.Ytchgiafmbfdpdaa
open Go.RowKit

/-- Block g is a row of n cells of type t, none frozen, that reads as f. -/
def Row (w : World) (g : Nat) (t : TypeId) (n : Nat) (f : Nat → Value) : Prop := ∃ cs, w.heap[g]? = some (.cells cs t (0, 0)) ∧ cs.size = n ∧ ∀ i, i < n → cs[i]? = some (f i)
section
variable {w w' : World} {g n : Nat} {t : TypeId} {f : Nat → Value}
theorem Row.lt (h : Row w g t n f) : g < w.heap.size := by
  obtain ⟨cs, h1, _⟩ := h
  exact (Array.getElem?_eq_some_iff.1 h1).1
theorem Row.cell (h : Row w g t n f) {i : Nat} (hi : i < n) : w.cell? ⟨g, i, none⟩ = some (f i) := by
  obtain ⟨cs, h1, _, h3⟩ := h
  rw [cell_of_row w g i cs t (0, 0) h1]
  exact h3 i hi
theorem Row.frozen (h : Row w g t n f) (i : Nat) : w.frozen? ⟨g, i, none⟩ = false := by
  obtain ⟨cs, h1, _, _⟩ := h
  simp [World.frozen?, h1]
theorem Row.set (h : Row w g t n f) (i : Nat) (u : Value) : Row (w.setCell ⟨g, i, none⟩ u) g t n (fun j => if j = i then u else f j) := by
  obtain ⟨cs, h1, h2, h3⟩ := h
  refine ⟨cs.setIfInBounds i u, by simp [World.setCell, Array.getElem?_modify, h1], by simp [h2], fun j hj => ?_⟩
  rw [Array.getElem?_setIfInBounds]
  by_cases e : i = j
  · subst e
    rw [if_pos rfl, if_pos (by omega)]
    show _ = some (if i = i then u else f i)
    rw [if_pos rfl]
  · rw [if_neg e]
    show _ = some (if j = i then u else f j)
    rw [if_neg (fun h => e h.symm)]
    exact h3 j hj
theorem Row.far (h : Row w g t n f) {p : Addr} (hp : g ≠ p.block) (u : Value) : Row (w.setCell p u) g t n f := by
  obtain ⟨cs, h1, h2, h3⟩ := h
  exact ⟨cs, (Below.heap_setCell w p u g hp).trans h1, h2, h3⟩
theorem Row.below {B : Nat} (h : Row w g t n f) (hb : Below B w w') (hg : g < B) : Row w' g t n f := by
  obtain ⟨cs, h1, h2, h3⟩ := h
  exact ⟨cs, (hb.block g hg).trans h1, h2, h3⟩
theorem Row.grown {row : Option Nat} (h : Row w g t n f) (hb : w.grownBy w' row) (hg : some g ≠ row) : Row w' g t n f := by
  have hl := h.lt
  obtain ⟨cs, h1, h2, h3⟩ := h
  exact ⟨cs, (hb.block g hl hg).trans h1, h2, h3⟩
theorem Row.congr {f' : Nat → Value} (h : Row w g t n f) (he : ∀ i, i < n → f i = f' i) : Row w g t n f' := by
  obtain ⟨cs, h1, h2, h3⟩ := h
  exact ⟨cs, h1, h2, fun i hi => by rw [h3 i hi, he i hi]⟩
end

theorem made_get (z : Value) (hz : z.cells = #[z]) (n i : Nat) (hi : i < n) : (madeCells z.cells (n * 1)).toList[i]? = some z := by
  unfold madeCells
  rw [hz]
  simp [hi, Nat.mod_one]

theorem row_made {w w' : World} {B n : Nat} {e : TypeId} {z : Value} (hz : z.cells = #[z]) (h : w'.ownsRow B e 1 (.slice (some ⟨w.heap.size, 0, none⟩) n n) n (madeCells z.cells (n * 1)).toList) : Row w' w.heap.size e n (fun _ => z) := by
  obtain ⟨hl, ⟨hv, _⟩ | ⟨g, cap, cur, hv, hbg, hg, hnc, hcm, hcs, htake⟩⟩ := h
  · cases hv
  · injection hv with h1 h2 h3
    injection h1 with h1
    injection h1 with h1
    subst h1 h3
    refine ⟨cur, hg, by omega, fun i hi => ?_⟩
    rw [← Array.getElem?_toList]
    have e : cur.toList = (madeCells z.cells (n * 1)).toList := by
      rw [← htake, List.take_of_length_le (by rw [Array.length_toList]; omega)]
    rw [e]
    exact made_get z hz n i hi

theorem info9 : (Try.prog.info? 9).map (fun i => (i.zero, i.size, i.bytes)) = some (some (.string ⟨#[]⟩), 1, 16) := by kernel_rfl
theorem info3 : (Try.prog.info? 3).map (fun i => (i.zero, i.size, i.bytes)) = some (some (.int .i64 0), 1, 8) := by kernel_rfl

theorem pc_get (ps : List (List UInt8 × Nat)) (k : Nat) (hk : k < ps.length) : (pc ps)[k * 2]? = some (.string (S ps[k].1)) ∧ (pc ps)[k * 2 + 1]? = some (.int .u8 (ps[k].2 : Int)) := by
  induction ps generalizing k with
  | nil => simp at hk
  | cons x r ih =>
    have e : pc (x :: r) = .string (S x.1) :: .int .u8 (x.2 : Int) :: pc r := rfl
    rw [e]
    cases k with
    | zero => simp
    | succ k =>
      obtain ⟨h1, h2⟩ := ih k (by simpa using hk)
      have e1 : (k + 1) * 2 = k * 2 + 2 := by omega
      have e2 : (k + 1) * 2 + 1 = k * 2 + 1 + 2 := by omega
      rw [e2, e1]
      simp only [List.getElem?_cons_succ, List.getElem_cons_succ]
      exact ⟨h1, h2⟩

def ZzPost (ps : List (List UInt8 × Nat)) (w : World) (e : Ending) (w' : World) : Prop :=
  ∃ b1 b2, e = .returned (.tuple #[.slice (some ⟨b1, 0, none⟩) ps.length ps.length, .slice (some ⟨b2, 0, none⟩) ps.length ps.length]) ∧
    w.heap.size ≤ b1 ∧ w.heap.size ≤ b2 ∧ Row w' b1 9 ps.length (fun i => .string (S (ps.getD i ([], 0)).1)) ∧ Row w' b2 3 ps.length (fun i => .int .i64 ((ps.getD i ([], 0)).2 : Int)) ∧ Below w.heap.size w w'

theorem split_length : ∀ (n : Nat) (t : List UInt8) (s : Nat), (split n t s).length ≤ t.length
  | 0, t, s => by
    show (tl t s).length ≤ _
    unfold tl
    split
    · simp; omega
    · simp
  | n + 1, t, s => by
    unfold split
    have htl : (tl t s).length ≤ t.length := by
      unfold tl
      split
      · simp; omega
      · simp
    by_cases hs : s < t.length
    · rw [if_pos hs]
      by_cases hi : Lib.indexByte (t.drop s) 91 = -1
      · rw [if_pos hi]; exact htl
      · rw [if_neg hi]
        cases ht : tokAt (t.drop (s + (Lib.indexByte (t.drop s) 91).toNat)) with
        | none => exact split_length n _ _
        | some p =>
          have hp := tok_len (tokAt_some ht).1
          obtain ⟨_, r, hr⟩ := tokAt_some ht
          have hlen := congrArg List.length hr
          rw [List.length_drop, List.length_append] at hlen
          have := split_length n (t.drop (s + (Lib.indexByte (t.drop s) 91).toNat + (tok p).length)) 0
          rw [List.length_drop] at this
          show (_ :: split n _ _).length ≤ _
          rw [List.length_cons]
          omega
    · rw [if_neg hs]; exact htl

set_option maxHeartbeats 1000000 in
theorem zz_some (s : ByteArray) (w : World) (h0 : s.toList.isEmpty = false) (hs : s.size ≤ 1048576) :
    Calls Try.prog 6 #[.string s] w (ZzPost (parts (tpl s.data.toList)) w) := by
  have hnl := fun wx (a : Option Addr) (n c : Nat) => Lib.run_eql_slice_nil (P := Try.prog) wx 32 36 a n c 0 0 Try.underlying32
  have hlen : (parts (tpl s.data.toList)).length ≤ 1048578 := by
    refine Nat.le_trans (split_length _ _ _) ?_
    unfold tpl
    rw [List.length_cons, List.length_cons, slashed_length, ← Lib.size_eq]
    omega
  have HSM := Lib.hid (show ∀ x ∈ parts (tpl s.data.toList), x.2 ≤ 4 by
    obtain ⟨_, _, _, h3, _⟩ := parts_good (tpl s.data.toList) (by unfold tpl; simp)
    exact fun x hx => (h3 x hx).2)
  obtain ⟨i9, hi9, hz90, hz91, hz92⟩ := info_parts info9
  obtain ⟨i3, hi3, hz30, hz31, hz32⟩ := info_parts info3
  have HI9 := Lib.hid (And.intro hi9 (And.intro hz90 (And.intro hz91 hz92)))
  have HI3 := Lib.hid (And.intro hi3 (And.intro hz30 (And.intro hz31 hz32)))
  clear hi9 hz90 hz91 hz92 hi3 hz30 hz31 hz32
  go_enter Try.func6, Try.ntmps6
  go_wp2_with fail
  refine (val_some s _ h0 hs).mono ?_
  rintro e w1 ⟨v, rfl, hp⟩
  obtain ⟨hown, hb1, hsz, hnil⟩ := hp
  generalize parts (tpl s.data.toList) = ps at *
  obtain ⟨hxl, ⟨hv, _⟩ | ⟨g, cap, cur, hv, hbg, hg, hnc, hcm, hcs, htake⟩⟩ := hown
  · exact absurd hv hnil
  rw [hv]
  have hgl : g < w1.heap.size := (Array.getElem?_eq_some_iff.1 hg).1
  have hsrc : ∀ (j : Nat) (u : Value), (pc ps)[j]? = some u → cur[j]? = some u := by
    intro j u hj
    rw [← htake, List.getElem?_take] at hj
    split at hj
    · rw [← Array.getElem?_toList]; exact hj
    · cases hj
  have HS := Lib.hid hsrc
  have HG := Lib.hid hg
  clear hsrc hg htake hcs hv hnil hxl
  go_wp2_with (first | (at_make; refine wpList_make_full _ rfl (.tmp 13) (.tmp 13) 23 rfl w.heap.size 9 i9 (.string ⟨#[]⟩) 1 Try.underlying23 HI9.out.1 HI9.out.2.1 HI9.out.2.2.1 _ _ _ _ ps.length rfl rfl rfl rfl (by rw [HI9.out.2.2.2]; omega) (by unfold maxLen; omega) hsz ?_; intro w2 hown2 hgrow2) | (at_make; refine wpList_make_full _ rfl (.tmp 16) (.tmp 16) 24 rfl w2.heap.size 3 i3 (.int .i64 0) 1 Try.underlying24 HI3.out.1 HI3.out.2.1 HI3.out.2.2.1 _ _ _ _ ps.length rfl rfl rfl rfl (by rw [HI3.out.2.2.2]; omega) (by unfold maxLen; omega) (Nat.le_refl _) ?_; intro w3 hown3 hgrow3))
  have r1 := row_made rfl hown2
  have r2 := row_made rfl hown3
  have hl1 := r1.lt
  have hl2 := r2.lt
  have r1' := r1.grown hgrow3 (by simp)
  have hg3 : w3.heap[g]? = some (.cells cur 36 (0, 0)) := by
    rw [hgrow3.block g (by have := hgrow2.size; omega) (by simp), hgrow2.block g hgl (by simp)]
    exact HG.out
  have hb3 : Below w.heap.size w w3 := (hb1.grown hgrow2 hsz (fun k hk => by cases hk)).grown hgrow3 (Nat.le_trans hsz hgrow2.size) (fun k hk => by cases hk)
  have hsz2 := hgrow2.size
  clear HG hown2 hown3 r1 hgrow2 hgrow3
  generalize hb2e : w2.heap.size = b2 at *
  generalize hb1e : w1.heap.size = b1 at *
  clear hb2e hb1e
  have hg3' := Lib.hid hg3
  clear hg3
  go_loopw [7] (fun i wr => ∃ k : Nat, k ≤ ps.length ∧ i = .int .i64 k ∧ wr.heap[g]? = some (.cells cur 36 (0, 0)) ∧ Row wr b1 9 ps.length (fun i => if i < k then .string (S (ps.getD i ([], 0)).1) else .string ⟨#[]⟩) ∧ Row wr b2 3 ps.length (fun i => if i < k then .int .i64 ((ps.getD i ([], 0)).2 : Int) else .int .i64 0) ∧ Below w.heap.size w wr) (fun i _ => ps.length - (intOf i).toNat)
  case atStart => exact ⟨0, Nat.zero_le _, rfl, hg3'.out, r1', r2, hb3⟩
  case round =>
    clear r1' r2 hb3 hg3'
    obtain ⟨k, hk, rfl, hgr, q1, q2, hbr⟩ := hrel
    by_cases hlt : k < ps.length
    · obtain ⟨hp1, hp2⟩ := pc_get ps k hlt
      have c1 : wr.cell? ⟨g, k * 2, none⟩ = some (.string (S ps[k].1)) := by rw [cell_of_row wr g _ cur 36 (0, 0) hgr]; exact HS.out _ _ hp1
      have c2 : wr.cell? ⟨g, k * 2 + 1, none⟩ = some (.int .u8 (ps[k].2 : Int)) := by rw [cell_of_row wr g _ cur 36 (0, 0) hgr]; exact HS.out _ _ hp2
      have d1 := q1.cell hlt
      have d2 := q2.cell hlt
      have z1 := q1.frozen k
      have z2 := q2.frozen k
      have hle : ps[k].2 ≤ 4 := HSM.out _ (List.getElem_mem hlt)
      have ne1 : g ≠ b1 := by omega
      have ne2 : g ≠ b2 := by omega
      have ne3 : b1 ≠ b2 := by omega
      go_wp2_with fail
      have hgd : ps.getD k ([], 0) = ps[k] := by rw [List.getD_eq_getElem?_getD, List.getElem?_eq_getElem hlt]; rfl
      refine ⟨⟨k + 1, by omega, by go_num, ?_, ?_, ?_, ?_⟩, by simp [intOf]; omega⟩
      · rw [Below.heap_setCell _ _ _ _ ne2, Below.heap_setCell _ _ _ _ ne1]
        exact hgr
      · refine ((q1.set k _).far (by exact ne3) _).congr fun i hi => ?_
        by_cases e : i = k
        · subst e
          rw [if_pos rfl, if_pos (by omega), hgd]
        · rw [if_neg e]
          by_cases hik : i < k
          · rw [if_pos hik, if_pos (by omega)]
          · rw [if_neg hik, if_neg (by omega)]
      · refine ((q2.far (p := ⟨b1, k, none⟩) (by exact fun h => ne3 h.symm) _).set k _).congr fun i hi => ?_
        by_cases e : i = k
        · subst e
          rw [if_pos rfl, if_pos (by omega), hgd]
        · rw [if_neg e]
          by_cases hik : i < k
          · rw [if_pos hik, if_pos (by omega)]
          · rw [if_neg hik, if_neg (by omega)]
      · exact (hbr.setCell (p := ⟨b1, k, none⟩) (by show w.heap.size ≤ b1; omega) _).setCell (p := ⟨b2, k, none⟩) (by show w.heap.size ≤ b2; omega) _
    · go_wp2_with fail
      go_ret2
      have hke : k = ps.length := by omega
      refine ⟨b1, b2, rfl, by omega, by omega, q1.congr fun i hi => ?_, q2.congr fun i hi => ?_, hbr⟩
      · rw [if_pos (by omega)]
      · rw [if_pos (by omega)]

theorem zz_none (s : ByteArray) (w : World) (h0 : s.toList.isEmpty = true) :
    Calls Try.prog 6 #[.string s] w fun e w' => e = .returned (.tuple #[.slice none 0 0, .slice none 0 0]) ∧ w = w' := by
  have hnl := fun wx (a : Option Addr) (n c : Nat) => Lib.run_eql_slice_nil (P := Try.prog) wx 32 36 a n c 0 0 Try.underlying32
  go_enter Try.func6, Try.ntmps6
  go_wp2
  go_ret2
  exact ⟨rfl, rfl⟩

end Go.Proofs.Ytchgiafmbfdpdaa
