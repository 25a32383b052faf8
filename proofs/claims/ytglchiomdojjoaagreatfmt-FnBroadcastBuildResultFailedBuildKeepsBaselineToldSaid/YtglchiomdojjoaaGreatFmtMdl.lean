/-
  The model's pieces: zzURL, zzAppendList; conditions: those that each lemma names.
-/
import Derived.Test.YtglchiomdojjoaaGreatFmtTri
import Derived.Test.YtglchiomdojjoaaGreatFmtUrl
import Derived.Test.YtglchiomdojjoaaGreatFmtWrt
namespace Go.Proofs.YtglchiomdojjoaaGreatFmt
open Go.RowKit

theorem suf_last {p : Bs} (h : p ≠ []) : Lib.hasSuffix p [47] = (p[p.length - 1]! == 47) := by
  obtain ⟨i, c, rfl⟩ : ∃ i c, p = i ++ [c] := ⟨p.dropLast, p.getLast h, (List.dropLast_concat_getLast h).symm⟩
  have e : (i ++ [c])[(i ++ [c]).length - 1]! = c := by
    rw [getElem!_pos _ _ (by simp)]
    simp
  rw [e]
  unfold Lib.hasSuffix
  rw [Bool.eq_iff_iff, List.isSuffixOf_iff_suffix, beq_iff_eq]
  constructor
  · rintro ⟨t, ht⟩
    have := congrArg List.getLast? ht
    simpa using this.symm
  · rintro rfl
    exact ⟨i, rfl⟩
def urlS (p s : ByteArray) : ByteArray := S (urlL p.data.toList s.data.toList)
theorem sum3 (p sl s : ByteArray) (h : p.size + sl.size + s.size ≤ 4611686018427387904) : (∀ wx, (Op.stringOp .add p sl).run Tryz.prog wx = .ok (.string (S (p.data.toList ++ sl.data.toList))) wx) ∧
    ∀ wx, (Op.stringOp .add (S (p.data.toList ++ sl.data.toList)) s).run Tryz.prog wx = .ok (.string (S (p.data.toList ++ sl.data.toList ++ s.data.toList))) wx := by
  refine ⟨fun wx => run_add_S p sl (by omega) wx, fun wx => ?_⟩
  have := run_add_S (P := Tryz.prog) (S (p.data.toList ++ sl.data.toList)) s (by rw [S_size, List.length_append, ← Lib.size_eq, ← Lib.size_eq]; omega) wx
  rwa [S_data] at this
set_option maxHeartbeats 2000000 in
set_option maxRecDepth 100000 in
theorem model_url (p s : ByteArray) (w : World) (hp : p.size ≤ 1048576) (hs : s.size ≤ 1048576) : Calls Tryz.prog 21 #[.string p, .string s] w fun e w' => e = .returned (.string (urlS p s)) ∧ w = w' := by
  have k1 : (⟨#[47]⟩ : ByteArray).size = 1 := rfl
  have k0 : (⟨#[]⟩ : ByteArray).size = 0 := rfl
  cases e0 : p.toList.isEmpty with
  | true =>
    obtain ⟨q1, q2⟩ := sum3 p ⟨#[47]⟩ s (by omega)
    have HU := Lib.hid (url_slash (p := p.data.toList) (l := s.data.toList) (fun h => h.1 (by rw [Lib.toList_data] at e0; exact List.isEmpty_iff.1 e0)))
    go_enter Tryz.func21, Tryz.ntmps21
    go_wp2_with fail
    go_ret
    exact ⟨ret_str (congrArg S (by simpa using HU.out)), rfl⟩
  | false =>
    have hne : p.data.toList ≠ [] := fun e => by rw [Lib.toList_data, e] at e0; cases e0
    have hpos : 0 < p.size := by rw [Lib.size_eq]; exact List.length_pos_iff.2 hne
    have hlt : p.size - 1 < p.size := by omega
    have hidx : (p.size : Int) - 1 = ((p.size - 1 : Nat) : Int) := by omega
    have hs1 := suf_last hne
    rw [← Lib.size_eq, at_get p _ hlt] at hs1
    cases e1 : (((p[p.size - 1].toNat : Nat) : Int) == 47) with
    | true =>
      have hc : Lib.hasSuffix p.data.toList [47] = true := by
        rw [hs1, beq_iff_eq]
        exact UInt8.toNat_inj.1 (by rw [beq_iff_eq] at e1; show _ = 47; omega)
      obtain ⟨q1, q2⟩ := sum3 p ⟨#[]⟩ s (by omega)
      simp only [List.append_nil] at q1 q2
      have HU := Lib.hid (url_none (p := p.data.toList) (l := s.data.toList) hne hc)
      clear hs1 hc
      go_enter Tryz.func21, Tryz.ntmps21
      go_wp2_with fail
      go_ret
      exact ⟨ret_str (congrArg S (by simpa using HU.out)), rfl⟩
    | false =>
      have hc : ¬ (p.data.toList ≠ [] ∧ Lib.hasSuffix p.data.toList [47] = true) := fun h => by
        rw [hs1, beq_iff_eq] at h
        rw [h.2] at e1
        exact absurd e1 (by decide)
      obtain ⟨q1, q2⟩ := sum3 p ⟨#[47]⟩ s (by omega)
      have HU := Lib.hid (url_slash (p := p.data.toList) (l := s.data.toList) hc)
      clear hs1 hc
      go_enter Tryz.func21, Tryz.ntmps21
      go_wp2_with fail
      go_ret
      exact ⟨ret_str (congrArg S (by simpa using HU.out)), rfl⟩
/-- A buffer of bytes of the call's own. -/
structure BB (B : Nat) (v : Value) (l : Bs) (W0 w : World) : Prop where
  own : w.ownsRow B 5 1 v l.length (bc l)
  bel : Below B W0 w
  oth : Lib.OthersKept 5 none W0 w
  le : B ≤ w.heap.size
theorem BB.nil (w : World) : BB w.heap.size (.slice none 0 0) [] w w := ⟨⟨rfl, .inl ⟨rfl, rfl⟩⟩, Below.refl _ _, Lib.OthersKept.refl _ _ _, Nat.le_refl _⟩
section
variable {ops : Array Oper} {rest : List Oper} {o : Oper} {a : Act} {Q : Exit → Act → World → Prop}
theorem bb_text {w : World} (hgd : o.guard = none) (sl x : Operand) (ho : o.op = .call { callee := .builtin .append, args := #[sl, x], argTypes := #[74, 9] })
    (B : Nat) (i : TypeInfo) (hi : Tryz.prog.info? 5 = some i) (hz : i.zero = some (.int .u8 0)) (hsize : i.size = 1) (hby : i.bytes = 1)
    (v : Value) (l : Bs) (hs : a.eval sl = v) (W0 : World) (hb : BB B v l W0 w) (s : ByteArray) (hx : a.eval x = .string s) (hlen : l.length + s.size ≤ 140737488355328)
    (h : ∀ v' w', BB B v' (l ++ s.data.toList) W0 w' → wpList Tryz.prog ops Q rest (a.put o.dst v') w') : wpList Tryz.prog ops Q (o :: rest) a w := by
  refine Lib.wpList_append_own_string _ hgd sl x 74 9 ho B 5 i Tryz.underlying74 Tryz.underlying9 hi hz hsize hby v l.length (bc l) hs hb.own s hx (by unfold maxLen; omega) hlen hb.le ?_
  intro v' w' hown hg _
  refine h v' w' ⟨?_, hb.bel.grown hg hb.le (fun k hk => (hb.own.lt k hk).1), hb.oth.grown hg (ownsRow_kind hb.own), Nat.le_trans hb.le hg.size⟩
  rw [List.length_append, bc_append, ← Lib.size_eq]
  exact hown
theorem bb_S {w : World} (hgd : o.guard = none) (sl x : Operand) (ho : o.op = .call { callee := .builtin .append, args := #[sl, x], argTypes := #[74, 9] })
    (B : Nat) (i : TypeInfo) (hi : Tryz.prog.info? 5 = some i) (hz : i.zero = some (.int .u8 0)) (hsize : i.size = 1) (hby : i.bytes = 1)
    (v : Value) (l : Bs) (hs : a.eval sl = v) (W0 : World) (hb : BB B v l W0 w) (t : Bs) (hx : a.eval x = .string (S t)) (hlen : l.length + t.length ≤ 140737488355328)
    (h : ∀ v' w', BB B v' (l ++ t) W0 w' → wpList Tryz.prog ops Q rest (a.put o.dst v') w') : wpList Tryz.prog ops Q (o :: rest) a w := by
  refine bb_text hgd sl x ho B i hi hz hsize hby v l hs W0 hb (S t) hx (by rw [S_size]; exact hlen) ?_
  intro v' w' hb'
  rw [S_data] at hb'
  exact h v' w' hb'
theorem bb_byte {w : World} (hgd : o.guard = none) (sl x : Operand) (ho : o.op = .call { callee := .builtin .append, args := #[sl, x], argTypes := #[74, 74] })
    (B : Nat) (i : TypeInfo) (hi : Tryz.prog.info? 5 = some i) (hz : i.zero = some (.int .u8 0)) (hsize : i.size = 1) (hby : i.bytes = 1)
    (v : Value) (l : Bs) (hs : a.eval sl = v) (W0 : World) (hb : BB B v l W0 w) (c : Int) (b : UInt8) (hc : c = (b.toNat : Int)) (hx : a.eval x = .slice (some ⟨w.heap.size, 0, none⟩) 1 1) (hlen : l.length + 1 ≤ 140737488355328)
    (h : ∀ v' w', BB B v' (l ++ [b]) W0 w' → wpList Tryz.prog ops Q rest (a.put o.dst v') w') : wpList Tryz.prog ops Q (o :: rest) a (w.alloc (.cells #[.int .u8 c] 5)) := by
  refine wpList_append_own _ hgd sl x 74 ho B 5 i (.int .u8 0) 1 1 Tryz.underlying74 hi hz hsize hby rfl (by decide) v l.length (bc l) hs (hb.own.alloc _) ⟨w.heap.size, 0, none⟩ 1 1 [.int .u8 c] hx rfl (cell_one_new _ _ _) (fun u hu => by rw [List.mem_singleton] at hu; subst hu; rfl) (by unfold maxLen; omega) (by omega) (by have := hb.le; simp; omega) ?_
  intro v' w' hown hg _
  refine h v' w' ⟨?_, (hb.bel.alloc hb.le _).grown hg (by have := hb.le; simp; omega) (fun k hk => (hb.own.lt k hk).1), (hb.oth.alloc _).grown hg (ownsRow_kind (hb.own.alloc _)), ?_⟩
  · rw [List.length_append, bc_append]
    rw [hc] at hown
    exact hown
  · exact Nat.le_trans (by rw [World.alloc, Array.size_push]; have := hb.le; omega) hg.size
end
theorem row_oth {w w' : World} {g n : Nat} {f : Nat → Value} (h : Row w g 9 n f) (k : Lib.OthersKept 5 none w w') : Row w' g 9 n f := by
  obtain ⟨cs, h1, h2, h3⟩ := h
  exact ⟨cs, k g _ h1 (by simp) (fun c fz e => by cases e), h2, h3⟩
theorem RW.oth {B : Nat} {v : Value} {l : List Bs} {w w' : World} (h : RW B v l w) (k : Lib.OthersKept 5 none w w') : RW B v l w' := by
  refine ⟨h.1, ?_⟩
  rcases h.2 with h | ⟨g, cap, cur, hv, hbase, hg, rest⟩
  · exact .inl h
  · exact .inr ⟨g, cap, cur, hv, hbase, k g _ hg (by simp) (fun c fz e => by cases e), rest⟩
theorem listJ_take (L : List Bs) {k : Nat} (h : k < L.length) : listJ (L.take (k + 1)) = listJ (L.take k) ++ (if k = 0 then [] else [44]) ++ qt L[k]! := by
  rw [List.take_succ_eq_append_getElem h, listJ_next, getElem!_pos L k h]
  congr 2
  by_cases e : k = 0
  · subst e
    simp
  · rw [if_neg e, if_neg (by
      intro e2
      have := congrArg List.length e2
      rw [List.length_take, Nat.min_eq_left (by omega), List.length_nil] at this
      omega)]
def ListPost (B : Nat) (l : Bs) (L : List Bs) (W0 : World) (e : Ending) (w' : World) : Prop := ∃ v', e = .returned v' ∧ BB B v' (l ++ listJ L) W0 w'
set_option maxHeartbeats 4000000 in
set_option maxRecDepth 100000 in
theorem list_any (B : Nat) (v : Value) (l : Bs) (g n : Nat) (L : List Bs) (W0 w : World) (h : BB B v l W0 w) (hrow : Row w g 9 n (sv fun j => L[j]!)) (hn : L.length = n) (hnl : n ≤ 65536) (hl : l.length ≤ 1099511627776) (hL : ∀ u ∈ L, u.length ≤ 16777216) :
    Calls Tryz.prog 22 #[v, .slice (some ⟨g, 0, none⟩) n n] w (ListPost B l L W0) := by
  obtain ⟨i0, hi, hz0, hz1, hz2⟩ := info_parts infoU8
  have HI := Lib.hid (And.intro hi (And.intro hz0 (And.intro hz1 hz2)))
  have hstart : BB B v l w w := ⟨h.own, Below.refl _ _, Lib.OthersKept.refl _ _ _, h.le⟩
  have H0 := Lib.hid (And.intro h (And.intro hrow (And.intro hn (And.intro hL hstart))))
  clear hi hz0 hz1 hz2 h hrow hn hL hstart
  go_enter Tryz.func22, Tryz.ntmps22
  go_wp2_with fail
  go_loopw [0, 5] (fun s0 s5 wr => ∃ k : Nat, s5 = .int .i64 k ∧ k ≤ n ∧ BB B s0 (l ++ listJ (L.take k)) w wr) (fun _ s5 _ => n - (intOf s5).toNat)
  case atStart => exact ⟨0, rfl, Nat.zero_le _, by simpa [listJ] using H0.out.2.2.2.2⟩
  case round =>
    obtain ⟨k, rfl, hk, hb⟩ := hrel
    by_cases hlt : k < n
    · obtain ⟨u, hu⟩ : ∃ u, L[k]! = u := ⟨_, rfl⟩
      have hkL : k < L.length := by have := H0.out.2.2.1; omega
      have hul : u.length ≤ 16777216 := by rw [← hu, getElem!_pos L k hkL]; exact H0.out.2.2.2.1 _ (List.getElem_mem _)
      have HC := Lib.hid (fun v' l' wx (hx : BB B v' l' w wx) => show wx.cell? ⟨g, k, none⟩ = some (.string (S u)) by rw [(row_oth H0.out.2.1 hx.oth).cell hlt]; simp only [sv]; rw [hu])
      have htl : (listJ (L.take k)).length ≤ k * (16777216 + 3) := by
        refine Nat.le_trans (listJ_le _ 16777216 (fun x hx => H0.out.2.2.2.1 x (List.mem_of_mem_take hx))) ?_
        rw [List.length_take]
        exact Nat.mul_le_mul_right _ (Nat.min_le_left _ _)
      have htk := listJ_take L hkL
      rw [hu] at htk
      have HT := Lib.hid htk
      clear hu htk
      by_cases h0 : k = 0
      · subst h0
        go_wp2_with (first | (at_builtin; refine bb_byte rfl _ _ rfl B i0 HI.out.1 HI.out.2.1 HI.out.2.2.1 HI.out.2.2.2 _ _ rfl w (by assumption) 34 34 rfl rfl (by first | (simp only [List.length_append]; omega) | (simp only [List.length_append, List.length_cons, List.length_nil]; omega)) ?_; intro v' w' hb'; have hcx := HC.out _ _ _ hb'; go_frame) | (at_builtin; refine bb_byte rfl _ _ rfl B i0 HI.out.1 HI.out.2.1 HI.out.2.2.1 HI.out.2.2.2 _ _ rfl w (by assumption) 44 44 rfl rfl (by first | (simp only [List.length_append]; omega) | (simp only [List.length_append, List.length_cons, List.length_nil]; omega)) ?_; intro v' w' hb'; have hcx := HC.out _ _ _ hb'; go_frame) | (at_builtin; refine bb_S rfl _ _ rfl B i0 HI.out.1 HI.out.2.1 HI.out.2.2.1 HI.out.2.2.2 _ _ rfl w (by assumption) u rfl (by first | (simp only [List.length_append]; omega) | (simp only [List.length_append, List.length_cons, List.length_nil]; omega)) ?_; intro v' w' hb'; go_frame))
        refine ⟨⟨1, rfl, hlt, ?_⟩, by simp [intOf]; omega⟩
        have e := HT.out
        rw [if_pos rfl] at e
        rw [show (1 : Nat) = 0 + 1 from rfl, e]
        simpa [qt] using hb'
      · go_wp2_with (first | (at_builtin; refine bb_byte rfl _ _ rfl B i0 HI.out.1 HI.out.2.1 HI.out.2.2.1 HI.out.2.2.2 _ _ rfl w (by assumption) 34 34 rfl rfl (by first | (simp only [List.length_append]; omega) | (simp only [List.length_append, List.length_cons, List.length_nil]; omega)) ?_; intro v' w' hb'; have hcx := HC.out _ _ _ hb'; go_frame) | (at_builtin; refine bb_byte rfl _ _ rfl B i0 HI.out.1 HI.out.2.1 HI.out.2.2.1 HI.out.2.2.2 _ _ rfl w (by assumption) 44 44 rfl rfl (by first | (simp only [List.length_append]; omega) | (simp only [List.length_append, List.length_cons, List.length_nil]; omega)) ?_; intro v' w' hb'; have hcx := HC.out _ _ _ hb'; go_frame) | (at_builtin; refine bb_S rfl _ _ rfl B i0 HI.out.1 HI.out.2.1 HI.out.2.2.1 HI.out.2.2.2 _ _ rfl w (by assumption) u rfl (by first | (simp only [List.length_append]; omega) | (simp only [List.length_append, List.length_cons, List.length_nil]; omega)) ?_; intro v' w' hb'; go_frame))
        refine ⟨⟨k + 1, rfl, hlt, ?_⟩, by simp [intOf]; omega⟩
        have e := HT.out
        rw [if_neg h0] at e
        rw [e]
        simpa [qt] using hb'
    · obtain rfl : k = n := by omega
      go_wp2_with fail
      go_ret
      have hb' := hb
      rw [List.take_of_length_le (by have := H0.out.2.2.1; omega)] at hb'
      exact ⟨_, rfl, hb'.own, H0.out.1.bel.trans hb'.bel, H0.out.1.oth.trans hb'.oth, hb'.le⟩
end Go.Proofs.YtglchiomdojjoaaGreatFmt
