/-
  The contracts of making tokens, of cloning them, of comparing equal ones, and of the exported mangleFontFamily; conditions: those that each names.
-/
import Derived.Test.YtjinajfejbpicaaDoorGdx
import Derived.Laws.CopyRow
import Derived.Laws.CopyOwn
import Derived.Lib.SlBuf
namespace Go.Proofs.YtjinajfejbpicaaDoor
open Go.RowKit

theorem run_copy_wide {P : Program} (w : World) (dT sT ty elem : TypeId) (g dLen dCap : Nat) (a : Addr) (sLen sCap : Nat) (cur : Array Value) (t : TypeId) (cs : List Value) (size n : Nat)
    (hu : P.underlying dT = some (.slice elem)) (hs : (P.info? elem).map (·.size) = some size)
    (hg : w.heap[g]? = some (.cells cur t (0, 0))) (hn : Nat.min sLen dLen = n) (hc : cs.length = n * size)
    (hsrc : ∀ j v, cs[j]? = some v → w.cell? (a.add j) = some v) (hfit : cs.length = cur.size) (h1 : ∀ v ∈ cs, v.oneCell' = true) :
    (Builtin.copy_ #[dT, sT] ty #[.slice (some ⟨g, 0, none⟩) dLen dCap, .slice (some a) sLen sCap]).run P w = .ok (goInt n) (w.setRow g cs.toArray) := by
  have hl := run_loadCells_list (P := P) w a cs hsrc
  have hst := run_storeCells_at P g 0 t cs 0 cur w hg (by omega) h1
  have e : (cur.toList.take (0 + 0) ++ cs ++ cur.toList.drop (0 + 0 + cs.length)) = cs := by
    rw [List.drop_eq_nil_of_le (by rw [Array.length_toList]; omega)]
    simp
  rw [e] at hst
  rw [hc] at hl
  cases hq : P.info? elem with
  | none => simp [hq] at hs
  | some i =>
    have hi : i.size = size := by simpa [hq] using hs
    simp [Builtin.copy_, run_underlying hu, Builtin.lenOf, Builtin.firstCells, sizeOf, typeInfo, hq, hi, hn, hl, hst]

theorem tok_cells {w : World} {g o len cap : Nat} {ts : List Tok} (h : TokIn w (some ⟨g, o, none⟩) len cap ts) : ∀ j v, (flat ts)[j]? = some v → w.cell? ((⟨g, o, none⟩ : Addr).add j) = some v := by
  intro j v hv
  have hl := (List.getElem?_eq_some_iff.1 hv).1
  rw [flat_len] at hl
  obtain ⟨t, ht⟩ : ∃ t, ts[j / 7]? = some t := ⟨_, List.getElem?_eq_getElem (by omega)⟩
  obtain ⟨u, hu⟩ : ∃ u, (tokC t)[j % 7]? = some u := ⟨_, List.getElem?_eq_getElem (by show j % 7 < 7; omega)⟩
  have h1 := flat_get ts (j / 7) t (j % 7) u ht hu
  rw [show j / 7 * 7 + j % 7 = j by omega, hv] at h1
  cases h1
  rcases h.2.2.2 with rfl | ⟨g', o', e, h5⟩
  · simp at ht
  · cases e
    have := h5 (j / 7) t ht (j % 7) v hu
    rw [show o + (j / 7 * 7 + j % 7) = o + j by omega] at this
    have e2 : (⟨g, o, none⟩ : Addr).add j = ⟨g, o + j, none⟩ := by
      unfold Addr.add
      split
      · next h0 => rw [h0]; rfl
      · rfl
    rw [e2]
    exact this
theorem flat_one_all {ts : List Tok} : ∀ u ∈ flat ts, u.oneCell' = true := by
  induction ts with
  | nil => intro u hu; cases hu
  | cons t r ih =>
    intro u hu
    rw [flat] at hu
    rcases List.mem_append.1 hu with hu | hu
    · exact one_cells t u (by rw [flat_one]; exact hu)
    · exact ih u hu
theorem made_block {W : World} {B g n : Nat} {xs : List Value} (h : W.ownsRow B 48 7 (.slice (some ⟨g, 0, none⟩) n n) n xs) : ∃ cur, W.heap[g]? = some (.cells cur 48 (0, 0)) ∧ cur.size = n * 7 := by
  rcases h.2 with ⟨h1, _⟩ | ⟨g1, cap1, cur, h1, _, h3, _, _, h4, _⟩
  · cases h1
  · cases h1
    exact ⟨cur, h3, h4⟩
def CloneTEnd (ts : List Tok) (w : World) (e : Ending) (w' : World) : Prop := ∃ g, e = .returned (.slice (some ⟨g, 0, none⟩) ts.length ts.length) ∧ TokIn w' (some ⟨g, 0, none⟩) ts.length ts.length ts ∧ w'.ownsRow w.heap.size 48 7 (.slice (some ⟨g, 0, none⟩) ts.length ts.length) ts.length (flat ts) ∧ Below w.heap.size w w'

set_option maxHeartbeats 2000000 in
set_option maxRecDepth 100000 in
theorem cloneT_any (g o cap : Nat) (ts : List Tok) (w : World) (h : TokIn w (some ⟨g, o, none⟩) ts.length cap ts) (hl : ts.length ≤ 8388608) : Calls Tryd.prog 12 #[.slice (some ⟨g, o, none⟩) ts.length cap] w (CloneTEnd ts w) := by
  obtain ⟨i0, hi, hz0, hz1, hz2⟩ := info_parts info48
  have hsz7 : (Tryd.prog.info? 48).map (·.size) = some 7 := by rw [hi]; exact congrArg some hz1
  have HI := Lib.hid (And.intro hi (And.intro hz0 (And.intro hz1 (And.intro hz2 hsz7))))
  have H0 := Lib.hid h
  obtain ⟨n, hn⟩ : ∃ n, ts.length = n := ⟨_, rfl⟩
  have HN := Lib.hid hn
  rw [hn] at hl ⊢
  clear hi hz0 hz1 hz2 hsz7 h hn
  have q := Lib.run_eql_slice_nil (P := Tryd.prog)
  go_enter Tryd.func12, Tryd.ntmps12
  go_wp2_with (first
    | (at_make; refine wpList_make_full _ rfl (.tmp 7) (.tmp 7) 28 rfl w.heap.size 48 i0 (.agg #[.pointer none, .string ⟨#[]⟩, .int .i32 0, .int .u32 0, .int .u16 0, .int .u8 0, .int .u8 0]) 7 Tryd.underlying28 HI.out.1 HI.out.2.1 HI.out.2.2.1 _ _ _ _ n rfl rfl rfl rfl (by rw [HI.out.2.2.2.1]; omega) (by unfold maxLen; omega) (Nat.le_refl _) ?_; intro w2 hown hgrow; obtain ⟨cur, hcur, hcs⟩ := made_block hown; have hb2 : Below w.heap.size w w2 := (Below.refl _ _).grown hgrow (Nat.le_refl _) (fun k hk => by cases hk))
    | (refine Lib.wpList_copy_run _ rfl (.tmp 9) (.tmp 10) 28 28 rfl _ _ rfl rfl (run_copy_wide w2 28 28 _ 48 w.heap.size n n ⟨g, o, none⟩ n cap cur 48 (flat ts) 7 n Tryd.underlying28 HI.out.2.2.2.2 hcur (Nat.min_self _) (by rw [flat_len, HN.out]) (tok_cells ((H0.out.up hb2))) (by rw [flat_len, HN.out, hcs]) flat_one_all) ?_))
  have hb3 : Below w.heap.size w (w2.setRow w.heap.size (flat ts).toArray) := below_setRow hb2 (Nat.le_refl _) _
  have hrow : (w2.setRow w.heap.size (flat ts).toArray).heap[w.heap.size]? = some (.cells (flat ts).toArray 48 (0, 0)) := setRow_heap w2 w.heap.size _ _ 48 _ hcur
  have ho : (w2.setRow w.heap.size (flat ts).toArray).ownsRow w.heap.size 48 7 (.slice (some ⟨w.heap.size, 0, none⟩) n n) n (flat ts) :=
    ⟨by rw [flat_len, HN.out], .inr ⟨w.heap.size, n, _, rfl, Nat.le_refl _, hrow, Nat.le_refl _, by unfold maxLen; omega, by rw [List.size_toArray, flat_len, HN.out], by rw [List.take_of_length_le (by rw [List.toList_toArray, flat_len, HN.out]; exact Nat.le_refl _)]⟩⟩
  have HX := Lib.hid (And.intro ho hb3)
  clear hb3 hrow ho hcur hcs hb2 hown hgrow
  go_wp2_with fail
  go_ret
  obtain ⟨A, c, e, htk⟩ := own_tok HX.out.1 HN.out
  cases e
  exact ⟨w.heap.size, by rw [HN.out]; rfl, by rw [HN.out]; exact htk, by rw [HN.out]; exact HX.out.1, HX.out.2⟩

theorem sameQ {w : World} {a b : Option Addr} {n ca cb : Nat} {ts : List Tok} (h1 : TokIn w a n ca ts) (h2 : TokIn w b n cb ts) {i : Nat} {t : Tok} (ht : ts[i]? = some t) : ∃ g o g' o', a = some ⟨g, o, none⟩ ∧ b = some ⟨g', o', none⟩ ∧ Head w g (o + i * 7) t ∧ Head w g' (o' + i * 7) t := by
  obtain ⟨g, o, rfl, h3, _⟩ := h1.head ht
  obtain ⟨g', o', rfl, h4, _⟩ := h2.head ht
  exact ⟨g, o, g', o', rfl, rfl, h3, h4⟩
set_option maxHeartbeats 4000000 in
set_option maxRecDepth 100000 in
theorem same_any (a b : Option Addr) (n ca cb : Nat) (ts : List Tok) (w : World) (h1 : TokIn w a n ca ts) (h2 : TokIn w b n cb ts) : Calls Tryd.prog 13 #[.slice a n ca, .slice b n cb] w fun e w' => e = .returned (.bool true) ∧ ∃ m, w' = w.drewN m := by
  have hl := h1.1
  have hc1 := h1.2.1
  have hc2 := h1.2.2.1
  have hc3 := h2.2.1
  have hc4 := h2.2.2.1
  unfold maxLen at hc2 hc4
  have H := Lib.hid (And.intro h1 (And.intro h2 hl))
  clear h1 h2 hl
  have hbn : (((n : Nat) : Int) != (n : Int)) = false := by simp
  go_enter Tryd.func13, Tryd.ntmps13
  go_wp2_with fail
  go_loopg [5] n (fun gk s5 wx => ∃ i m : Nat, i ≤ n ∧ s5 = .int .i64 (i : Nat) ∧ gk = n - i ∧ wx = w.drewN m)
  case atStart => exact ⟨0, 0, Nat.zero_le _, rfl, rfl, rfl⟩
  case round =>
    obtain ⟨i, m, hi, rfl, rfl, rfl⟩ := hrel
    by_cases hlt : i < n
    · obtain ⟨t, ht⟩ : ∃ t, ts[i]? = some t := ⟨_, List.getElem?_eq_getElem (by rw [H.out.2.2]; exact hlt)⟩
      have hdr := fun k (x : Addr) => show (w.drewN k).cell? x = w.cell? x from by
        induction k with
        | zero => rfl
        | succ k ih => exact ih
      obtain ⟨g, o, g', o', rfl, rfl, hA, hB⟩ := sameQ H.out.1 H.out.2.1 ht
      have A1 := hA.c1
      have A2 := hA.c2
      have A5 := hA.c5
      have A6 := hA.c6
      have B1 := hB.c1
      have B2 := hB.c2
      have B5 := hB.c5
      have B6 := hB.c6
      clear hdr hA hB ht
      have z0 : (0 : Int) ≤ (i : Int) := by omega
      have z1 : (i : Int) < (n : Int) := by omega
      have k5 : (t.kind != t.kind) = false := by simp
      have k6 : (t.ws != t.ws) = false := by simp
      have k2 : (t.loc != t.loc) = false := by simp
      go_wp2_with fail
      go_big_quiet (fail)
      go_wp2_with fail
      go_roundg (n - (i + 1))
      case measure => omega
      case rel => exact ⟨i + 1, _, by omega, by go_num, rfl, rfl⟩
    · go_wp2_with fail
      go_ret
      exact ⟨rfl, m, rfl⟩

def ZzEnd (w0 : World) (r : Option (List Tok)) (e : Ending) (w' : World) : Prop :=
  Below w0.heap.size w0 w' ∧ match r with
  | none => e = .returned (.tuple #[.slice none 0 0, .bool false])
  | some o => ∃ A cap, e = .returned (.tuple #[.slice A o.length cap, .bool true]) ∧ TokIn w' A o.length cap o
set_option maxHeartbeats 1000000 in
set_option maxRecDepth 100000 in
theorem zz_any (mw : Bool) (a : Option Addr) (len cap : Nat) (T : List Tok) (w : World) (hT : Tabs w) (hts : TokIn w a len cap T) (hsz : ∀ x ∈ T, x.text.length ≤ 4194304) (hwt : wt T ≤ 8388608) :
    Calls Tryd.prog 11 #[.bool mw, .slice a len cap] w (ZzEnd w (mangle V G mw (T.length + 1) T)) := by
  have H := Lib.hid (fun (pb : Nat) (w1 : World) (hb : Below w.heap.size w w1) (hp : w1.cell? ⟨pb, 50, none⟩ = some (.bool mw)) => mff_any pb mw a len cap T w1 (hT.up hb) hp (hts.up hb) hsz hwt)
  obtain ⟨r, hr⟩ : ∃ r, mangle V G mw (T.length + 1) T = r := ⟨_, rfl⟩
  rw [hr] at H ⊢
  clear hT hts hsz hwt hr
  go_enter Tryd.func11, Tryd.ntmps11
  go_wp2_with fail
  refine (parser_any mw _).mono ?_
  rintro e w1 ⟨⟨pb, rfl, hp⟩, hb⟩
  have HB := Lib.hid hb
  have HM := Lib.hid (H.out pb w1 hb hp)
  clear hp hb
  go_wp2_with fail
  refine HM.out.mono ?_
  cases r with
  | none =>
    rintro e w2 ⟨hb2, rfl⟩
    have HB2 := Lib.hid (HB.out.trans (hb2.mono HB.out.size))
    clear hb2
    go_wp2_with fail
    exact bodyPost_ret (v := .tuple #[.slice none 0 0, .bool false]) (by simp [results, Tryd.results11, go_sem]) rfl ⟨HB2.out, rfl⟩
  | some o =>
    rintro e w2 ⟨hb2, v, rfl, ho⟩
    obtain ⟨A, c, rfl, htk⟩ := own_tok ho rfl
    have HB2 := Lib.hid (And.intro (HB.out.trans (hb2.mono HB.out.size)) htk)
    clear hb2 ho htk
    go_wp2_with fail
    exact bodyPost_ret (v := .tuple #[.slice A o.length c, .bool true]) (by simp [results, Tryd.results11, go_sem]) rfl ⟨HB2.out.1, A, c, rfl, HB2.out.2⟩
end Go.Proofs.YtjinajfejbpicaaDoor
