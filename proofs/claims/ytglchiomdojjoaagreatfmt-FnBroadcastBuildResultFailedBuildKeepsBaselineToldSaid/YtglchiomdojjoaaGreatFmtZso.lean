/-
  zzSorted: the texts in the order of their bytes; conditions: those that each lemma names.
-/
import Derived.Test.YtglchiomdojjoaaGreatFmtGin
import Derived.Test.YtglchiomdojjoaaGreatFmtDst
import Derived.Sort.Walk0
namespace Go.Proofs.YtglchiomdojjoaaGreatFmt
open Go.RowKit Go.Sort

abbrev sv (o : Nat → Bs) (j : Nat) : Value := .string (S (o j))
/-- Only block g has changed. -/
structure Gs (g : Nat) (w w' : World) : Prop where
  os : w'.os = w.os
  tape : w'.tape = w.tape
  output : w'.output = w.output
  size : w'.heap.size = w.heap.size
  block : ∀ k, k ≠ g → w'.heap[k]? = w.heap[k]?
theorem Gs.refl (g : Nat) (w : World) : Gs g w w := ⟨rfl, rfl, rfl, rfl, fun _ _ => rfl⟩
theorem Gs.set {g : Nat} {w w' : World} (h : Gs g w w') (o : Nat) (v : Value) : Gs g w (w'.setCell ⟨g, o, none⟩ v) :=
  ⟨h.os, h.tape, h.output, by rw [← h.size]; simp [World.setCell], fun k hk => by rw [Below.heap_setCell w' ⟨g, o, none⟩ v k hk]; exact h.block k hk⟩
theorem Gs.below {g n : Nat} {a b : World} (h : Gs g a b) (hg : n ≤ g) : Below n a b := ⟨h.os, h.tape, h.output, by rw [h.size]; exact Nat.le_refl _, fun k hk => h.block k (by omega)⟩
structure OI (L : List Bs) (g : Nat) (w : World) (i : Nat) (o : List Bs) (wr : World) : Prop where
  perm : o.Perm L
  srt : (o.take i).Pairwise Lo
  row : Row wr g 9 L.length (sv fun j => o[j]!)
  gs : Gs g w wr
theorem OI.length {L : List Bs} {g : Nat} {w : World} {i : Nat} {o : List Bs} {wr : World} (h : OI L g w i o wr) : o.length = L.length := h.perm.length_eq
theorem gap_next (o : List Bs) {p i : Nat} (hp : p + 1 ≤ i) (j : Nat) : (if j = p + 1 then (.string (S o[p]!) : Value) else sv (gap o (p + 1) i) j) = sv (gap o p i) j := by
  have h := gap_step o hp j
  show _ = Value.string (S (gap o p i j))
  rw [← h]
  split <;> rfl
theorem gap_end (o : List Bs) {p i : Nat} (hp : p ≤ i) (hi : i < o.length) (j : Nat) (hj : j < o.length) : (if j = p then (.string (S o[i]!) : Value) else sv (gap o p i) j) = sv (fun m => (ins o p i)[m]!) j := by
  show _ = Value.string (S (ins o p i)[j]!)
  rw [ins_get o hp hi j hj]
  split <;> rfl
theorem OI.close {L : List Bs} {g : Nat} {w : World} {i p : Nat} {o : List Bs} {wr wx W : World} (h : OI L g w i o wr) (hi : i < L.length) (hp : p ≤ i) (hrow : Row wx g 9 L.length (sv (gap o p i))) (hgs : Gs g w wx)
    (hup : ∀ k, p ≤ k → k < i → Lo o[i]! o[k]!) (hlo : 0 < p → Lo o[p - 1]! o[i]!) (hW : W = wx.setCell ⟨g, p, none⟩ (.string (S o[i]!))) : OI L g w (i + 1) (ins o p i) W := by
  subst hW
  have hl := h.length
  exact ⟨(ins_perm o hp (by omega)).trans h.perm, ins_sorted o hp (by omega) h.srt hup hlo, (hrow.set p _).congr fun j hj => gap_end o hp (by omega) j (by omega), hgs.set _ _⟩
theorem lo_of_less {x y : Bs} (h : Op.bytesLess x y = true) : Lo x y := by
  rw [bytesLess_eq, decide_eq_true_eq] at h
  simp only [Lo, leB, decide_eq_true_eq]
  exact List.le_of_lt h
theorem lo_of_not {x y : Bs} (h : Op.bytesLess x y = false) : Lo y x := by
  rw [bytesLess_eq, decide_eq_false_iff_not] at h
  simp only [Lo, leB, decide_eq_true_eq]
  exact List.not_lt.1 h
theorem lo_of_eq {x y : Bs} (h : (x == y) = true) : Lo x y := by
  have := beq_iff_eq.1 h
  subst this
  simp only [Lo, leB, decide_eq_true_eq]
  exact List.le_refl _
def SortPost (L : List Bs) (l : Nat) (w : World) (e : Ending) (w' : World) : Prop := ∃ g, e = .returned (.slice (some ⟨g, 0, none⟩) l l) ∧ Row w' g 9 l (sv fun j => (srt L)[j]!) ∧ Below w.heap.size w w' ∧ w.heap.size ≤ g
theorem row_of_cells {w : World} {g : Nat} {L : List Bs} (h : w.heap[g]? = some (.cells (L.map fun x => Value.string (S x)).toArray 9 (0, 0))) : Row w g 9 L.length (sv fun j => L[j]!) := by
  refine ⟨_, h, by simp, fun i hi => ?_⟩
  rw [List.getElem?_toArray, List.getElem?_map, List.getElem?_eq_getElem hi]
  show some (Value.string (S L[i])) = some (Value.string (S L[i]!))
  rw [getElem!_pos L i hi]
theorem made_block {w w' : World} {B l : Nat} {xs : List Value} (h : w'.ownsRow B 9 1 (.slice (some ⟨w.heap.size, 0, none⟩) l l) l xs) : ∃ cur : List Value, w'.heap[w.heap.size]? = some (.cells cur.toArray 9 (0, 0)) ∧ cur.length = l := by
  obtain ⟨_, ⟨hv, _⟩ | ⟨g, cap, cur, hv, hbg, hg, hnc, hcm, hcs, htake⟩⟩ := h
  · cases hv
  · injection hv with h1 h2 h3
    injection h1 with h1
    injection h1 with h1
    subst h1 h3
    exact ⟨cur.toList, by simpa using hg, by simpa using hcs⟩
set_option maxHeartbeats 8000000 in
set_option maxRecDepth 100000 in
theorem sorted_any (a : Option Addr) (l c : Nat) (L : List Bs) (w : World) (h : InRow w a l c (L.map fun x => Value.string (S x))) (hl : l ≤ 65536) : Calls Tryz.prog 23 #[.slice a l c] w (SortPost L l w) := by
  have hn := h.len
  rw [List.length_map] at hn
  obtain ⟨i0, hi, hz0, hz1, hz2⟩ := info_parts info9
  have HI := Lib.hid (And.intro hi (And.intro hz0 (And.intro hz1 hz2)))
  have hsz9 : (Tryz.prog.info? 9).map (·.size) = some 1 := by rw [hi]; exact congrArg some hz1
  have H0 := Lib.hid (And.intro h (And.intro hn hsz9))
  clear hi hz0 hz1 hz2 h hn hsz9
  go_enter Tryz.func23, Tryz.ntmps23
  go_upto_region 2 with (at_make; refine wpList_make_full _ rfl _ _ 22 rfl w.heap.size 9 i0 (.string ⟨#[]⟩) 1 Tryz.underlying22 HI.out.1 HI.out.2.1 HI.out.2.2.1 _ _ _ _ l rfl rfl rfl rfl (by rw [HI.out.2.2.2]; omega) (by unfold maxLen; omega) (Nat.le_refl _) ?_; intro w2 hown hgrow)
  obtain ⟨cur, hcur, hcl⟩ := made_block hown
  have hb2 : Below w.heap.size w w2 := (Below.refl _ _).grown hgrow (Nat.le_refl _) (fun k hk => by cases hk)
  have hsrc : 0 < (L.map fun x => Value.string (S x)).length → ∃ ad, a = some ad ∧ ∀ j v, (L.map fun x => Value.string (S x))[j]? = some v → w2.cell? (ad.add j) = some v := fun hp => by
    rcases H0.out.1.up hb2 with ⟨_, _, _, e⟩ | ⟨x, e, _, _, _, hc⟩
    · rw [e] at hp; exact absurd hp (by decide)
    · exact ⟨x, e, hc⟩
  have HC := Lib.hid (And.intro hcur (And.intro hcl (And.intro hb2 hsrc)))
  clear hown hgrow hcur hcl hb2 hsrc
  go_wp2_with (refine wpList_copy_splice rfl (.tmp 10) (.tmp 11) 22 22 rfl 9 Tryz.underlying22 H0.out.2.2 _ _ _ _ _ _ rfl rfl w.heap.size 0 cur 9 HC.out.1 (L.map fun x => Value.string (S x)) (by rw [List.length_map, H0.out.2.1]; exact (Nat.min_self _).symm) (fun hp => ⟨rfl, HC.out.2.2.2 hp⟩) (by rw [List.length_map, H0.out.2.1, HC.out.2.1]; omega) (fun v hv => by obtain ⟨x, _, rfl⟩ := List.mem_map.1 hv; rfl) w.heap.size w HC.out.2.2.1 (Nat.le_refl _) ?_; intro w3 hg3 hb3)
  have hsp : splice cur 0 (L.map fun x => Value.string (S x)) = L.map fun x => Value.string (S x) := by
    unfold splice
    have e1 : (L.map fun x => Value.string (S x)).length = cur.length := by rw [List.length_map, H0.out.2.1, HC.out.2.1]
    simp only [Nat.zero_add, List.take_zero, List.nil_append]
    rw [e1, List.drop_length, List.append_nil]
  have hrow3 : Row w3 w.heap.size 9 L.length (sv fun j => L[j]!) := row_of_cells (by have := hg3.out; rw [hsp] at this; exact this)
  have HR := Lib.hid (And.intro hrow3 hb3)
  have hLl : L.length = l := H0.out.2.1
  obtain ⟨g, hg⟩ : ∃ g, w.heap.size = g := ⟨_, rfl⟩
  have hgl : g < w3.heap.size := by rw [← hg]; exact hrow3.lt
  have HG := Lib.hid hg
  clear hg3 hsp hrow3 hb3
  have hO : OI L g w3 1 L w3 := by
    refine ⟨List.Perm.refl _, ?_, by rw [← hg]; exact HR.out.1, Gs.refl _ _⟩
    cases L with
    | nil => exact List.Pairwise.nil
    | cons x t => exact List.pairwise_singleton _ _
  have HO := Lib.hid hO
  clear hO
  rw [hg]
  clear hg
  go_loopw [4, 5, 6] (fun s4 _ _ wx => ∃ (i : Nat) (o : List Bs), s4 = .int .i64 i ∧ 1 ≤ i ∧ i ≤ l + 1 ∧ OI L g w3 i o wx) (fun s4 _ _ _ => l + 1 - (intOf s4).toNat)
  case atStart => exact ⟨1, _, rfl, by omega, by omega, HO.out⟩
  case round =>
    obtain ⟨i, o, rfl, hi1, hin, hO⟩ := hrel
    obtain ⟨wo, rfl⟩ : ∃ wo : World, wo = wr := ⟨_, rfl⟩
    by_cases hlt : i < l
    · obtain ⟨x, hx⟩ : ∃ x, o[i]! = x := ⟨_, rfl⟩
      have hcc : wo.cell? ⟨g, i, none⟩ = some (.string (S x)) := by rw [hO.row.cell (i := i) (by omega)]; show some (Value.string (S o[i]!)) = _; rw [hx]
      have HO := Lib.hid hO
      have HX := Lib.hid hx
      clear hO hx
      go_wp2_with fail
      go_loopw [6] (fun s6 wx => ∃ p : Nat, s6 = .int .i64 p ∧ p ≤ i ∧ Row wx g 9 L.length (sv (gap o p i)) ∧ Gs g w3 wx ∧ ∀ k, p ≤ k → k < i → Lo o[i]! o[k]!) (fun s6 _ => (intOf s6).toNat)
      case atStart => exact ⟨i, rfl, Nat.le_refl _, HO.out.row.congr fun j _ => (by show Value.string (S o[j]!) = Value.string (S (gap o i i j)); rw [gap_self]), HO.out.gs, fun k h1 h2 => by omega⟩
      case round =>
        obtain ⟨p, rfl, hp, hrow, hgs, hup⟩ := hrel
        have hfp := hrow.frozen p
        have hgl := hrow.lt
        have hcp : wr.cell? ⟨g, p, none⟩ = some (sv (gap o p i) p) := hrow.cell (by omega)
        cases p with
        | zero =>
          have HP := Lib.hid (And.intro hrow (And.intro hgs hup))
          clear hrow hgs hup
          go_wp2_with fail
          go_roundw
          case rel => exact ⟨i + 1, _, by go_num, by omega, by omega, HO.out.close (p := 0) (by omega) (by omega) (HP.out.1) (HP.out.2.1) HP.out.2.2 (fun h => by omega) (by rw [HX.out])⟩
          case measure => simp [intOf]; omega
        | succ p =>
          obtain ⟨y, hy⟩ : ∃ y, o[p]! = y := ⟨_, rfl⟩
          have hpi : ((p + 1 : Nat) : Int) - 1 = (p : Int) := by omega
          have hcy : wr.cell? ⟨g, p, none⟩ = some (.string (S y)) := by
            rw [hrow.cell (i := p) (by omega)]
            show some (Value.string (S (gap o (p + 1) i p))) = _
            unfold gap
            rw [if_neg (by omega), hy]
          have hP1 : (p : Int) < (l : Int) := by omega
          have hP2 : (p : Int) + 1 < (l : Int) := by omega
          have hP0 : (0 : Int) < ((p + 1 : Nat) : Int) := by omega
          have HP := Lib.hid (And.intro hrow (And.intro hgs (And.intro hup hy)))
          clear hrow hgs hup hy
          have hcast : ((p + 1 : Nat) : Int) = (p : Int) + 1 := by omega
          cases h1 : Op.bytesLess (S y).toList (S x).toList with
          | true =>
            have HL := Lib.hid (lo_of_less (by rw [S_toList, S_toList] at h1; exact h1))
            go_wp2_with fail
            go_roundw
            case rel => exact ⟨i + 1, _, by go_num, by omega, by omega, HO.out.close (p := p + 1) (by omega) (by omega) (HP.out.1) (HP.out.2.1) HP.out.2.2.1 (fun _ => by rw [HX.out, show p + 1 - 1 = p from rfl, HP.out.2.2.2]; exact HL.out) (by rw [HX.out])⟩
            case measure => simp [intOf]; omega
          | false =>
            cases h2 : ((S y).toList == (S x).toList) with
            | true =>
              have HL := Lib.hid (lo_of_eq (by rw [S_toList, S_toList] at h2; exact h2))
              go_wp2_with fail
              go_roundw
              case rel => exact ⟨i + 1, _, by go_num, by omega, by omega, HO.out.close (p := p + 1) (by omega) (by omega) (HP.out.1) (HP.out.2.1) HP.out.2.2.1 (fun _ => by rw [HX.out, show p + 1 - 1 = p from rfl, HP.out.2.2.2]; exact HL.out) (by rw [HX.out])⟩
              case measure => simp [intOf]; omega
            | false =>
              have HL := Lib.hid (lo_of_not (by rw [S_toList, S_toList] at h1; exact h1))
              go_wp2_with fail
              go_roundw
              case rel => exact ⟨p, by first | rfl | go_num, by omega, (HP.out.1.set (p + 1) _).congr fun j _ => (by have := gap_next o (p := p) (i := i) (by omega) j; rw [HP.out.2.2.2] at this; exact this), HP.out.2.1.set _ _, fun k k1 k2 => by
                by_cases e : k = p
                · subst e
                  rw [HX.out, HP.out.2.2.2]
                  exact HL.out
                · exact HP.out.2.2.1 k (by omega) k2⟩
              case measure => simp [intOf] <;> omega
    · have hol := hO.length
      have hso : o = srt L := srt_unique hO.perm (by have := hO.srt; rwa [List.take_of_length_le (by omega)] at this)
      have hrw := hO.row
      rw [hLl] at hrw
      have hbw : Below g w3 wo := hO.gs.below (Nat.le_refl _)
      have HE := Lib.hid (And.intro hso (And.intro hrw hbw))
      clear hO hso hrw hbw
      go_wp2_with fail
      go_ret
      refine ⟨g, rfl, by rw [← HE.out.1]; exact HE.out.2.1, ?_, by rw [HG.out]; exact Nat.le_refl _⟩
      have h3 := HR.out.2
      rw [HG.out] at h3 ⊢
      exact h3.trans HE.out.2.2
end Go.Proofs.YtglchiomdojjoaaGreatFmt
