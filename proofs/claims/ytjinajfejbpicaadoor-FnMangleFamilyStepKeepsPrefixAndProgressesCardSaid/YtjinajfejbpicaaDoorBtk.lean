/-
  The contract of making the tokens, and what their weights are; conditions: those that each names.
-/
import Derived.Test.YtjinajfejbpicaaDoorBld
namespace Go.Proofs.YtjinajfejbpicaaDoor
open Go.RowKit

/-- The kind of a token made of a byte. -/
def kd (k : Int) : Int := if (bits BinOp.and .u8 k 3 == 0) = true then 29 else if (bits BinOp.and .u8 k 3 == 1) = true then 36 else if (bits BinOp.and .u8 k 3 == 2) = true then 10 else 30
def wsd (k : Int) : Int := if (bits BinOp.and .u8 k 4 != 0) = true then 2 else 0
def mkTok (ks : List Int) (ss : List ByteArray) (i : Nat) : Tok := ⟨kd (ks.getD i 0), (ss.getD i ByteArray.empty).data.toList, wsd (ks.getD i 0), i⟩
def mkToks (ks : List Int) (ss : List ByteArray) : List Tok := (List.range ks.length).map (mkTok ks ss)
theorem mkToks_len (ks : List Int) (ss : List ByteArray) : (mkToks ks ss).length = ks.length := by simp [mkToks]
theorem mkToks_next (ks : List Int) (ss : List ByteArray) {i : Nat} (hi : i < ks.length) : (mkToks ks ss).take (i + 1) = (mkToks ks ss).take i ++ [mkTok ks ss i] := by
  have hl : i < (mkToks ks ss).length := by rw [mkToks_len]; exact hi
  rw [List.take_succ_eq_append_getElem hl]
  simp [mkToks]
theorem mkToks_wt_range (ks : List Int) (ss : List ByteArray) : ∀ n, wt ((List.range n).map (mkTok ks ss)) ≤ 2 * n + tot (ss.take n)
  | 0 => by simp [wt]
  | n + 1 => by
    have ih := mkToks_wt_range ks ss n
    rw [List.range_succ, List.map_append, wt_append]
    have e : wt ([n].map (mkTok ks ss)) = (ss.getD n ByteArray.empty).data.toList.length + 2 := by simp [wt, mkTok]
    rw [e]
    cases h : ss[n]? with
    | none =>
      have hl := List.getElem?_eq_none_iff.1 h
      have : (ss.getD n ByteArray.empty) = ByteArray.empty := by rw [List.getD_eq_getElem?_getD, h]; rfl
      rw [this]
      rw [tot_all hl] at ih
      rw [tot_all (by omega)]
      have : ByteArray.empty.data.toList.length = 0 := rfl
      omega
    | some s =>
      have : (ss.getD n ByteArray.empty) = s := by rw [List.getD_eq_getElem?_getD, h]; rfl
      rw [this, tot_next h]
      have : s.data.toList.length = s.size := Array.length_toList
      omega
theorem mkToks_wt (ks : List Int) (ss : List ByteArray) : wt (mkToks ks ss) ≤ 2 * ks.length + tot ss :=
  Nat.le_trans (mkToks_wt_range ks ss ks.length) (Nat.add_le_add_left (tot_take_le _ _) _)
theorem wt_mem : ∀ {l : List Tok} {t : Tok}, t ∈ l → t.text.length + 2 ≤ wt l
  | [], _, h => by cases h
  | x :: r, t, h => by
    rw [wt]
    rcases List.mem_cons.1 h with rfl | h
    · omega
    · have := wt_mem h; omega
/-- All their bytes, and one each. -/
def tl1 (ps : List Bs) : Nat := (ps.map fun p => p.length + 1).sum
theorem spSplit_tl : ∀ l : Bs, tl1 (spSplit l) = l.length + 1
  | [] => rfl
  | c :: t => by
    have ih := spSplit_tl t
    rw [spSplit]
    split
    · simp [tl1] at ih ⊢; omega
    · split
      · next e r he =>
        rw [he] at ih
        simp [tl1] at ih ⊢; omega
      · next he => exact absurd he (spSplit_ne t)
theorem wt_idents_aux (loc : Int) : ∀ (ps : List Bs) (f : Nat → Bs → Tok), (∀ i p, (f i p).text = p) → wt (ps.mapIdx f) = tl1 ps + ps.length
  | [], _, _ => rfl
  | p :: ps, f, hf => by
    rw [List.mapIdx_cons, wt, wt_idents_aux loc ps _ (fun i p => hf (i + 1) p), hf]
    simp [tl1]; omega
theorem tl1_len : ∀ ps : List Bs, ps.length ≤ tl1 ps
  | [] => Nat.le_refl _
  | p :: ps => by have := tl1_len ps; simp [tl1] at this ⊢; omega
theorem wt_expand (mw : Bool) (t : Tok) : wt (expand V mw t) ≤ 2 * (t.text.length + 2) := by
  unfold expand
  split
  · unfold idents
    rw [wt_idents_aux t.loc _ _ (fun _ _ => rfl)]
    have h1 := spSplit_tl t.text
    have h2 := tl1_len (spSplit t.text)
    omega
  · rw [wt, wt]; omega
theorem step_wt2 {mw : Bool} {ts o r : List Tok} (h : step V G mw ts = some (o, r)) : wt o + 2 * wt r ≤ 2 * wt ts := by
  cases ts with
  | nil => cases h
  | cons t s =>
    rw [step] at h
    split at h
    · cases h
      simp only [wt]; omega
    · split at h
      · cases h
        have := wt_expand mw t
        rw [wt]; omega
      · split at h
        · split at h
          · cases h
            have e : t :: s = (t :: s).takeWhile (fun u => decide (u.kind = KI)) ++ (t :: s).dropWhile (fun u => decide (u.kind = KI)) := List.takeWhile_append_dropWhile.symm
            have e2 := congrArg wt e
            rw [wt_append] at e2
            omega
          · cases h
        · cases h
theorem mangle_wt {mw : Bool} : ∀ (n : Nat) (l o : List Tok), mangle V G mw n l = some o → wt o ≤ 2 * wt l
  | 0, _, _, h => by cases h
  | n + 1, l, o, h => by
    unfold mangle at h
    cases hs : step V G mw l with
    | none => rw [hs] at h; cases h
    | some p =>
      obtain ⟨q, r⟩ := p
      have hw := step_wt2 hs
      rw [hs] at h
      cases r with
      | nil =>
        obtain rfl : q = o := Option.some.inj h
        omega
      | cons c s =>
        change (if c.kind = KC then _ else _) = _ at h
        split at h
        · cases hm : mangle V G mw n s with
          | none => rw [hm] at h; cases h
          | some x =>
            rw [hm] at h
            obtain rfl : q ++ c :: x = o := Option.some.inj h
            have ih := mangle_wt n s x hm
            rw [wt_append, wt]
            rw [wt] at hw
            omega
        · cases h

theorem kd_cases (k : Int) : ((bits BinOp.and .u8 k 3 == 0) = true ∧ kd k = 29) ∨ ((bits BinOp.and .u8 k 3 == 0) = false ∧ (bits BinOp.and .u8 k 3 == 1) = true ∧ kd k = 36) ∨ ((bits BinOp.and .u8 k 3 == 0) = false ∧ (bits BinOp.and .u8 k 3 == 1) = false ∧ (bits BinOp.and .u8 k 3 == 2) = true ∧ kd k = 10) ∨ ((bits BinOp.and .u8 k 3 == 0) = false ∧ (bits BinOp.and .u8 k 3 == 1) = false ∧ (bits BinOp.and .u8 k 3 == 2) = false ∧ kd k = 30) := by
  unfold kd
  cases h0 : (bits BinOp.and .u8 k 3 == 0)
  · cases h1 : (bits BinOp.and .u8 k 3 == 1)
    · cases h2 : (bits BinOp.and .u8 k 3 == 2) <;> simp
    · simp
  · simp
theorem wsd_cases (k : Int) : ((bits BinOp.and .u8 k 4 != 0) = true ∧ wsd k = 2) ∨ ((bits BinOp.and .u8 k 4 != 0) = false ∧ wsd k = 0) := by
  unfold wsd
  cases h0 : (bits BinOp.and .u8 k 4 != 0) <;> simp
theorem seven_in' {W : World} {k : Nat} {ty : TypeId} (t : Tok) (s : ByteArray) (hs : S t.text = s) (h : W.heap[k]? = some (.cells #[.pointer none, .string s, .int .i32 t.loc, .int .u32 0, .int .u16 0, .int .u8 t.kind, .int .u8 t.ws] ty (0, 0))) : ∀ j u, (flat [t])[j]? = some u → W.cell? ((⟨k, 0, none⟩ : Addr).add j) = some u := seven_in t (by rw [hs]; exact h)
theorem S_of (s : ByteArray) : S s.data.toList = s := by
  unfold S
  cases s
  simp
def BtkRel (w : World) (ks : List Int) (ss : List ByteArray) (n gk : Nat) (s5 s6 : Value) (wx : World) : Prop :=
  ∃ i : Nat, i ≤ n ∧ s6 = .int .i64 (i : Nat) ∧ gk = n - i ∧ s5 = .slice (some ⟨w.heap.size, 0, none⟩) i n ∧ wx.ownsRow w.heap.size 48 7 (.slice (some ⟨w.heap.size, 0, none⟩) i n) i (flat ((mkToks ks ss).take i)) ∧ Below w.heap.size w wx
def BtkEnd (ks : List Int) (ss : List ByteArray) (w : World) (e : Ending) (w' : World) : Prop := ∃ g, e = .returned (.slice (some ⟨g, 0, none⟩) ks.length ks.length) ∧ TokIn w' (some ⟨g, 0, none⟩) ks.length ks.length (mkToks ks ss) ∧ w.heap.size ≤ g ∧ Below w.heap.size w w'
theorem heap2 (w : World) (A B : Obj) : ((w.alloc A).alloc B).heap[w.heap.size + 1]? = some B := by
  have := heap_alloc_new (w.alloc A) B
  rwa [World.size_alloc] at this

set_option maxHeartbeats 16000000 in
set_option maxRecDepth 100000 in
theorem build_any (a0 a1 : Option Addr) (l0 c0 l1 c1 : Nat) (ks : List Int) (ss : List ByteArray) (w : World) (h0 : InRow w a0 l0 c0 (ks.map (Value.int .u8))) (h1 : InRow w a1 l1 c1 (ss.map Value.string)) (hl : l0 ≤ 1048576) :
    Calls Tryd.prog 10 #[.slice a0 l0 c0, .slice a1 l1 c1] w (BtkEnd ks ss w) := by
  obtain ⟨i0, hi, hz0, hz1, hz2⟩ := info_parts info48
  have hk0 := h0.len
  have hs0 := h1.len
  rw [List.length_map] at hk0 hs0
  have HI := Lib.hid (And.intro hi (And.intro hz0 (And.intro hz1 hz2)))
  have HA := Lib.hid (And.intro h0 (And.intro h1 (And.intro hk0 hs0)))
  clear hi hz0 hz1 hz2 h0 h1 hk0 hs0
  go_enter Tryd.func10, Tryd.ntmps10
  go_wp2_with (at_make; refine wpList_make_own _ rfl _ _ 28 rfl w.heap.size 48 i0 (.agg #[.pointer none, .string ⟨#[]⟩, .int .i32 0, .int .u32 0, .int .u16 0, .int .u8 0, .int .u8 0]) 7 Tryd.underlying28 HI.out.1 HI.out.2.1 HI.out.2.2.1 _ _ _ l0 rfl rfl rfl (by rw [HI.out.2.2.2]; omega) (by unfold maxLen; omega) (Nat.le_refl _) ?_; intro w2 hown hgrow)
  have hb2 : Below w.heap.size w w2 := (Below.refl _ _).grown hgrow (Nat.le_refl _) (fun k hk => by cases hk)
  have H2 := Lib.hid (And.intro hown hb2)
  clear hown hgrow hb2
  go_loopg [5, 6] l0 (fun gk s5 s6 wx => BtkRel w ks ss l0 gk s5 s6 wx)
  case atStart => exact ⟨0, Nat.zero_le _, rfl, rfl, rfl, H2.out.1, H2.out.2⟩
  case round =>
    clear H2
    obtain ⟨i, hi, rfl, rfl, rfl, hown, hb⟩ := hrel
    have hws := hb.size
    by_cases hlt : i < l0
    case neg =>
      obtain rfl : i = l0 := by omega
      have htk : (mkToks ks ss).take i = mkToks ks ss := List.take_of_length_le (by rw [mkToks_len, HA.out.2.2.1]; exact Nat.le_refl _)
      rw [htk] at hown
      have HX := Lib.hid (And.intro hown hb)
      clear htk hown hb
      go_wp2_with fail
      go_ret
      obtain ⟨A, c, e, htk⟩ := own_tok HX.out.1 (by rw [mkToks_len, HA.out.2.2.1])
      cases e
      exact ⟨w.heap.size, by rw [HA.out.2.2.1]; rfl, by rw [HA.out.2.2.1]; exact htk, Nat.le_refl _, HX.out.2⟩
    case pos =>
      obtain ⟨x, k, hx, hk, ck⟩ := (HA.out.1.up hb).get hlt
      subst hx
      have ck2 : ∀ o, (wr.alloc o).cell? (x.add i) = some (.int .u8 k) := fun o => (World.cell?_alloc_lt _ _ _ (World.block_lt_of_cell? wr _ ck)).trans ck
      have hnx := mkToks_next ks ss (i := i) (by rw [HA.out.2.2.1]; exact hlt)
      have hkg : ks.getD i 0 = k := by rw [List.getD_eq_getElem?_getD, hk]; rfl
      have HN2 := Lib.hid (fun A B => heap2 wr A B)
      by_cases hls : i < l1
      · obtain ⟨y, s, hy, hs, cs⟩ := (HA.out.2.1.up hb).get hls
        subst hy
        have cs2 : ∀ o, (wr.alloc o).cell? (y.add i) = some (.string s) := fun o => (World.cell?_alloc_lt _ _ _ (World.block_lt_of_cell? wr _ cs)).trans cs
        have hsg : ss.getD i ByteArray.empty = s := by rw [List.getD_eq_getElem?_getD, hs]; rfl
        clear hs cs
        rcases kd_cases k with ⟨e0, hK⟩ | ⟨e0, e1, hK⟩ | ⟨e0, e1, e2, hK⟩ | ⟨e0, e1, e2, hK⟩
        · rcases wsd_cases k with ⟨f0, hW⟩ | ⟨f0, hW⟩
          · have htk : mkTok ks ss i = ⟨29, s.data.toList, 2, i⟩ := by unfold mkTok; rw [hkg, hsg, hK, hW]
            rw [htk] at hnx
            have HR := Lib.hid (And.intro hown (And.intro hb hnx))
            clear hown hb hnx htk hK hW hkg hsg hk
            go_wp2_with (at_builtin; refine wpList_append_fits _ rfl _ _ 28 rfl w.heap.size 48 i0 7 Tryd.underlying28 HI.out.1 HI.out.2.2.1 w.heap.size i l0 (flat ((mkToks ks ss).take i)) rfl ((HR.out.1.alloc _).alloc _) ⟨wr.heap.size + 1, 0, none⟩ 1 1 (flat [⟨29, s.data.toList, 2, i⟩]) rfl rfl (seven_in' ⟨29, s.data.toList, 2, i⟩ s (S_of s) (HN2.out _ _)) (one_cells _) (by omega) ?_; intro w4 hown4 hg4)
            have hbel : Below w.heap.size w w4 := ((HR.out.2.1.alloc hws _).alloc (Nat.le_trans hws (by simp)) _).grown hg4 (Nat.le_trans hws (by simp; omega)) (fun k hk => by cases hk; exact Nat.le_refl _)
            have HX := Lib.hid (And.intro hbel hown4)
            clear hbel hown4 hg4
            go_wp2_with fail
            go_roundg (l0 - (i + 1))
            case measure => omega
            case rel => exact ⟨i + 1, hlt, by go_num, rfl, rfl, by rw [HR.out.2.2, flat_append]; exact HX.out.2, HX.out.1⟩
          · have htk : mkTok ks ss i = ⟨29, s.data.toList, 0, i⟩ := by unfold mkTok; rw [hkg, hsg, hK, hW]
            rw [htk] at hnx
            have HR := Lib.hid (And.intro hown (And.intro hb hnx))
            clear hown hb hnx htk hK hW hkg hsg hk
            go_wp2_with (at_builtin; refine wpList_append_fits _ rfl _ _ 28 rfl w.heap.size 48 i0 7 Tryd.underlying28 HI.out.1 HI.out.2.2.1 w.heap.size i l0 (flat ((mkToks ks ss).take i)) rfl ((HR.out.1.alloc _).alloc _) ⟨wr.heap.size + 1, 0, none⟩ 1 1 (flat [⟨29, s.data.toList, 0, i⟩]) rfl rfl (seven_in' ⟨29, s.data.toList, 0, i⟩ s (S_of s) (HN2.out _ _)) (one_cells _) (by omega) ?_; intro w4 hown4 hg4)
            have hbel : Below w.heap.size w w4 := ((HR.out.2.1.alloc hws _).alloc (Nat.le_trans hws (by simp)) _).grown hg4 (Nat.le_trans hws (by simp; omega)) (fun k hk => by cases hk; exact Nat.le_refl _)
            have HX := Lib.hid (And.intro hbel hown4)
            clear hbel hown4 hg4
            go_wp2_with fail
            go_roundg (l0 - (i + 1))
            case measure => omega
            case rel => exact ⟨i + 1, hlt, by go_num, rfl, rfl, by rw [HR.out.2.2, flat_append]; exact HX.out.2, HX.out.1⟩
        · rcases wsd_cases k with ⟨f0, hW⟩ | ⟨f0, hW⟩
          · have htk : mkTok ks ss i = ⟨36, s.data.toList, 2, i⟩ := by unfold mkTok; rw [hkg, hsg, hK, hW]
            rw [htk] at hnx
            have HR := Lib.hid (And.intro hown (And.intro hb hnx))
            clear hown hb hnx htk hK hW hkg hsg hk
            go_wp2_with (at_builtin; refine wpList_append_fits _ rfl _ _ 28 rfl w.heap.size 48 i0 7 Tryd.underlying28 HI.out.1 HI.out.2.2.1 w.heap.size i l0 (flat ((mkToks ks ss).take i)) rfl ((HR.out.1.alloc _).alloc _) ⟨wr.heap.size + 1, 0, none⟩ 1 1 (flat [⟨36, s.data.toList, 2, i⟩]) rfl rfl (seven_in' ⟨36, s.data.toList, 2, i⟩ s (S_of s) (HN2.out _ _)) (one_cells _) (by omega) ?_; intro w4 hown4 hg4)
            have hbel : Below w.heap.size w w4 := ((HR.out.2.1.alloc hws _).alloc (Nat.le_trans hws (by simp)) _).grown hg4 (Nat.le_trans hws (by simp; omega)) (fun k hk => by cases hk; exact Nat.le_refl _)
            have HX := Lib.hid (And.intro hbel hown4)
            clear hbel hown4 hg4
            go_wp2_with fail
            go_roundg (l0 - (i + 1))
            case measure => omega
            case rel => exact ⟨i + 1, hlt, by go_num, rfl, rfl, by rw [HR.out.2.2, flat_append]; exact HX.out.2, HX.out.1⟩
          · have htk : mkTok ks ss i = ⟨36, s.data.toList, 0, i⟩ := by unfold mkTok; rw [hkg, hsg, hK, hW]
            rw [htk] at hnx
            have HR := Lib.hid (And.intro hown (And.intro hb hnx))
            clear hown hb hnx htk hK hW hkg hsg hk
            go_wp2_with (at_builtin; refine wpList_append_fits _ rfl _ _ 28 rfl w.heap.size 48 i0 7 Tryd.underlying28 HI.out.1 HI.out.2.2.1 w.heap.size i l0 (flat ((mkToks ks ss).take i)) rfl ((HR.out.1.alloc _).alloc _) ⟨wr.heap.size + 1, 0, none⟩ 1 1 (flat [⟨36, s.data.toList, 0, i⟩]) rfl rfl (seven_in' ⟨36, s.data.toList, 0, i⟩ s (S_of s) (HN2.out _ _)) (one_cells _) (by omega) ?_; intro w4 hown4 hg4)
            have hbel : Below w.heap.size w w4 := ((HR.out.2.1.alloc hws _).alloc (Nat.le_trans hws (by simp)) _).grown hg4 (Nat.le_trans hws (by simp; omega)) (fun k hk => by cases hk; exact Nat.le_refl _)
            have HX := Lib.hid (And.intro hbel hown4)
            clear hbel hown4 hg4
            go_wp2_with fail
            go_roundg (l0 - (i + 1))
            case measure => omega
            case rel => exact ⟨i + 1, hlt, by go_num, rfl, rfl, by rw [HR.out.2.2, flat_append]; exact HX.out.2, HX.out.1⟩
        · rcases wsd_cases k with ⟨f0, hW⟩ | ⟨f0, hW⟩
          · have htk : mkTok ks ss i = ⟨10, s.data.toList, 2, i⟩ := by unfold mkTok; rw [hkg, hsg, hK, hW]
            rw [htk] at hnx
            have HR := Lib.hid (And.intro hown (And.intro hb hnx))
            clear hown hb hnx htk hK hW hkg hsg hk
            go_wp2_with (at_builtin; refine wpList_append_fits _ rfl _ _ 28 rfl w.heap.size 48 i0 7 Tryd.underlying28 HI.out.1 HI.out.2.2.1 w.heap.size i l0 (flat ((mkToks ks ss).take i)) rfl ((HR.out.1.alloc _).alloc _) ⟨wr.heap.size + 1, 0, none⟩ 1 1 (flat [⟨10, s.data.toList, 2, i⟩]) rfl rfl (seven_in' ⟨10, s.data.toList, 2, i⟩ s (S_of s) (HN2.out _ _)) (one_cells _) (by omega) ?_; intro w4 hown4 hg4)
            have hbel : Below w.heap.size w w4 := ((HR.out.2.1.alloc hws _).alloc (Nat.le_trans hws (by simp)) _).grown hg4 (Nat.le_trans hws (by simp; omega)) (fun k hk => by cases hk; exact Nat.le_refl _)
            have HX := Lib.hid (And.intro hbel hown4)
            clear hbel hown4 hg4
            go_wp2_with fail
            go_roundg (l0 - (i + 1))
            case measure => omega
            case rel => exact ⟨i + 1, hlt, by go_num, rfl, rfl, by rw [HR.out.2.2, flat_append]; exact HX.out.2, HX.out.1⟩
          · have htk : mkTok ks ss i = ⟨10, s.data.toList, 0, i⟩ := by unfold mkTok; rw [hkg, hsg, hK, hW]
            rw [htk] at hnx
            have HR := Lib.hid (And.intro hown (And.intro hb hnx))
            clear hown hb hnx htk hK hW hkg hsg hk
            go_wp2_with (at_builtin; refine wpList_append_fits _ rfl _ _ 28 rfl w.heap.size 48 i0 7 Tryd.underlying28 HI.out.1 HI.out.2.2.1 w.heap.size i l0 (flat ((mkToks ks ss).take i)) rfl ((HR.out.1.alloc _).alloc _) ⟨wr.heap.size + 1, 0, none⟩ 1 1 (flat [⟨10, s.data.toList, 0, i⟩]) rfl rfl (seven_in' ⟨10, s.data.toList, 0, i⟩ s (S_of s) (HN2.out _ _)) (one_cells _) (by omega) ?_; intro w4 hown4 hg4)
            have hbel : Below w.heap.size w w4 := ((HR.out.2.1.alloc hws _).alloc (Nat.le_trans hws (by simp)) _).grown hg4 (Nat.le_trans hws (by simp; omega)) (fun k hk => by cases hk; exact Nat.le_refl _)
            have HX := Lib.hid (And.intro hbel hown4)
            clear hbel hown4 hg4
            go_wp2_with fail
            go_roundg (l0 - (i + 1))
            case measure => omega
            case rel => exact ⟨i + 1, hlt, by go_num, rfl, rfl, by rw [HR.out.2.2, flat_append]; exact HX.out.2, HX.out.1⟩
        · rcases wsd_cases k with ⟨f0, hW⟩ | ⟨f0, hW⟩
          · have htk : mkTok ks ss i = ⟨30, s.data.toList, 2, i⟩ := by unfold mkTok; rw [hkg, hsg, hK, hW]
            rw [htk] at hnx
            have HR := Lib.hid (And.intro hown (And.intro hb hnx))
            clear hown hb hnx htk hK hW hkg hsg hk
            go_wp2_with (at_builtin; refine wpList_append_fits _ rfl _ _ 28 rfl w.heap.size 48 i0 7 Tryd.underlying28 HI.out.1 HI.out.2.2.1 w.heap.size i l0 (flat ((mkToks ks ss).take i)) rfl ((HR.out.1.alloc _).alloc _) ⟨wr.heap.size + 1, 0, none⟩ 1 1 (flat [⟨30, s.data.toList, 2, i⟩]) rfl rfl (seven_in' ⟨30, s.data.toList, 2, i⟩ s (S_of s) (HN2.out _ _)) (one_cells _) (by omega) ?_; intro w4 hown4 hg4)
            have hbel : Below w.heap.size w w4 := ((HR.out.2.1.alloc hws _).alloc (Nat.le_trans hws (by simp)) _).grown hg4 (Nat.le_trans hws (by simp; omega)) (fun k hk => by cases hk; exact Nat.le_refl _)
            have HX := Lib.hid (And.intro hbel hown4)
            clear hbel hown4 hg4
            go_wp2_with fail
            go_roundg (l0 - (i + 1))
            case measure => omega
            case rel => exact ⟨i + 1, hlt, by go_num, rfl, rfl, by rw [HR.out.2.2, flat_append]; exact HX.out.2, HX.out.1⟩
          · have htk : mkTok ks ss i = ⟨30, s.data.toList, 0, i⟩ := by unfold mkTok; rw [hkg, hsg, hK, hW]
            rw [htk] at hnx
            have HR := Lib.hid (And.intro hown (And.intro hb hnx))
            clear hown hb hnx htk hK hW hkg hsg hk
            go_wp2_with (at_builtin; refine wpList_append_fits _ rfl _ _ 28 rfl w.heap.size 48 i0 7 Tryd.underlying28 HI.out.1 HI.out.2.2.1 w.heap.size i l0 (flat ((mkToks ks ss).take i)) rfl ((HR.out.1.alloc _).alloc _) ⟨wr.heap.size + 1, 0, none⟩ 1 1 (flat [⟨30, s.data.toList, 0, i⟩]) rfl rfl (seven_in' ⟨30, s.data.toList, 0, i⟩ s (S_of s) (HN2.out _ _)) (one_cells _) (by omega) ?_; intro w4 hown4 hg4)
            have hbel : Below w.heap.size w w4 := ((HR.out.2.1.alloc hws _).alloc (Nat.le_trans hws (by simp)) _).grown hg4 (Nat.le_trans hws (by simp; omega)) (fun k hk => by cases hk; exact Nat.le_refl _)
            have HX := Lib.hid (And.intro hbel hown4)
            clear hbel hown4 hg4
            go_wp2_with fail
            go_roundg (l0 - (i + 1))
            case measure => omega
            case rel => exact ⟨i + 1, hlt, by go_num, rfl, rfl, by rw [HR.out.2.2, flat_append]; exact HX.out.2, HX.out.1⟩
      · have hsg : ss.getD i ByteArray.empty = ByteArray.empty := by rw [List.getD_eq_getElem?_getD, List.getElem?_eq_none_iff.2 (by rw [HA.out.2.2.2]; omega)]; rfl
        rcases kd_cases k with ⟨e0, hK⟩ | ⟨e0, e1, hK⟩ | ⟨e0, e1, e2, hK⟩ | ⟨e0, e1, e2, hK⟩
        · rcases wsd_cases k with ⟨f0, hW⟩ | ⟨f0, hW⟩
          · have htk : mkTok ks ss i = ⟨29, [], 2, i⟩ := by unfold mkTok; rw [hkg, hsg, hK, hW]; rfl
            rw [htk] at hnx
            have HR := Lib.hid (And.intro hown (And.intro hb hnx))
            clear hown hb hnx htk hK hW hkg hsg hk
            go_wp2_with (at_builtin; refine wpList_append_fits _ rfl _ _ 28 rfl w.heap.size 48 i0 7 Tryd.underlying28 HI.out.1 HI.out.2.2.1 w.heap.size i l0 (flat ((mkToks ks ss).take i)) rfl ((HR.out.1.alloc _).alloc _) ⟨wr.heap.size + 1, 0, none⟩ 1 1 (flat [⟨29, [], 2, i⟩]) rfl rfl (seven_in' ⟨29, [], 2, i⟩ ⟨#[]⟩ rfl (HN2.out _ _)) (one_cells _) (by omega) ?_; intro w4 hown4 hg4)
            have hbel : Below w.heap.size w w4 := ((HR.out.2.1.alloc hws _).alloc (Nat.le_trans hws (by simp)) _).grown hg4 (Nat.le_trans hws (by simp; omega)) (fun k hk => by cases hk; exact Nat.le_refl _)
            have HX := Lib.hid (And.intro hbel hown4)
            clear hbel hown4 hg4
            go_wp2_with fail
            go_roundg (l0 - (i + 1))
            case measure => omega
            case rel => exact ⟨i + 1, hlt, by go_num, rfl, rfl, by rw [HR.out.2.2, flat_append]; exact HX.out.2, HX.out.1⟩
          · have htk : mkTok ks ss i = ⟨29, [], 0, i⟩ := by unfold mkTok; rw [hkg, hsg, hK, hW]; rfl
            rw [htk] at hnx
            have HR := Lib.hid (And.intro hown (And.intro hb hnx))
            clear hown hb hnx htk hK hW hkg hsg hk
            go_wp2_with (at_builtin; refine wpList_append_fits _ rfl _ _ 28 rfl w.heap.size 48 i0 7 Tryd.underlying28 HI.out.1 HI.out.2.2.1 w.heap.size i l0 (flat ((mkToks ks ss).take i)) rfl ((HR.out.1.alloc _).alloc _) ⟨wr.heap.size + 1, 0, none⟩ 1 1 (flat [⟨29, [], 0, i⟩]) rfl rfl (seven_in' ⟨29, [], 0, i⟩ ⟨#[]⟩ rfl (HN2.out _ _)) (one_cells _) (by omega) ?_; intro w4 hown4 hg4)
            have hbel : Below w.heap.size w w4 := ((HR.out.2.1.alloc hws _).alloc (Nat.le_trans hws (by simp)) _).grown hg4 (Nat.le_trans hws (by simp; omega)) (fun k hk => by cases hk; exact Nat.le_refl _)
            have HX := Lib.hid (And.intro hbel hown4)
            clear hbel hown4 hg4
            go_wp2_with fail
            go_roundg (l0 - (i + 1))
            case measure => omega
            case rel => exact ⟨i + 1, hlt, by go_num, rfl, rfl, by rw [HR.out.2.2, flat_append]; exact HX.out.2, HX.out.1⟩
        · rcases wsd_cases k with ⟨f0, hW⟩ | ⟨f0, hW⟩
          · have htk : mkTok ks ss i = ⟨36, [], 2, i⟩ := by unfold mkTok; rw [hkg, hsg, hK, hW]; rfl
            rw [htk] at hnx
            have HR := Lib.hid (And.intro hown (And.intro hb hnx))
            clear hown hb hnx htk hK hW hkg hsg hk
            go_wp2_with (at_builtin; refine wpList_append_fits _ rfl _ _ 28 rfl w.heap.size 48 i0 7 Tryd.underlying28 HI.out.1 HI.out.2.2.1 w.heap.size i l0 (flat ((mkToks ks ss).take i)) rfl ((HR.out.1.alloc _).alloc _) ⟨wr.heap.size + 1, 0, none⟩ 1 1 (flat [⟨36, [], 2, i⟩]) rfl rfl (seven_in' ⟨36, [], 2, i⟩ ⟨#[]⟩ rfl (HN2.out _ _)) (one_cells _) (by omega) ?_; intro w4 hown4 hg4)
            have hbel : Below w.heap.size w w4 := ((HR.out.2.1.alloc hws _).alloc (Nat.le_trans hws (by simp)) _).grown hg4 (Nat.le_trans hws (by simp; omega)) (fun k hk => by cases hk; exact Nat.le_refl _)
            have HX := Lib.hid (And.intro hbel hown4)
            clear hbel hown4 hg4
            go_wp2_with fail
            go_roundg (l0 - (i + 1))
            case measure => omega
            case rel => exact ⟨i + 1, hlt, by go_num, rfl, rfl, by rw [HR.out.2.2, flat_append]; exact HX.out.2, HX.out.1⟩
          · have htk : mkTok ks ss i = ⟨36, [], 0, i⟩ := by unfold mkTok; rw [hkg, hsg, hK, hW]; rfl
            rw [htk] at hnx
            have HR := Lib.hid (And.intro hown (And.intro hb hnx))
            clear hown hb hnx htk hK hW hkg hsg hk
            go_wp2_with (at_builtin; refine wpList_append_fits _ rfl _ _ 28 rfl w.heap.size 48 i0 7 Tryd.underlying28 HI.out.1 HI.out.2.2.1 w.heap.size i l0 (flat ((mkToks ks ss).take i)) rfl ((HR.out.1.alloc _).alloc _) ⟨wr.heap.size + 1, 0, none⟩ 1 1 (flat [⟨36, [], 0, i⟩]) rfl rfl (seven_in' ⟨36, [], 0, i⟩ ⟨#[]⟩ rfl (HN2.out _ _)) (one_cells _) (by omega) ?_; intro w4 hown4 hg4)
            have hbel : Below w.heap.size w w4 := ((HR.out.2.1.alloc hws _).alloc (Nat.le_trans hws (by simp)) _).grown hg4 (Nat.le_trans hws (by simp; omega)) (fun k hk => by cases hk; exact Nat.le_refl _)
            have HX := Lib.hid (And.intro hbel hown4)
            clear hbel hown4 hg4
            go_wp2_with fail
            go_roundg (l0 - (i + 1))
            case measure => omega
            case rel => exact ⟨i + 1, hlt, by go_num, rfl, rfl, by rw [HR.out.2.2, flat_append]; exact HX.out.2, HX.out.1⟩
        · rcases wsd_cases k with ⟨f0, hW⟩ | ⟨f0, hW⟩
          · have htk : mkTok ks ss i = ⟨10, [], 2, i⟩ := by unfold mkTok; rw [hkg, hsg, hK, hW]; rfl
            rw [htk] at hnx
            have HR := Lib.hid (And.intro hown (And.intro hb hnx))
            clear hown hb hnx htk hK hW hkg hsg hk
            go_wp2_with (at_builtin; refine wpList_append_fits _ rfl _ _ 28 rfl w.heap.size 48 i0 7 Tryd.underlying28 HI.out.1 HI.out.2.2.1 w.heap.size i l0 (flat ((mkToks ks ss).take i)) rfl ((HR.out.1.alloc _).alloc _) ⟨wr.heap.size + 1, 0, none⟩ 1 1 (flat [⟨10, [], 2, i⟩]) rfl rfl (seven_in' ⟨10, [], 2, i⟩ ⟨#[]⟩ rfl (HN2.out _ _)) (one_cells _) (by omega) ?_; intro w4 hown4 hg4)
            have hbel : Below w.heap.size w w4 := ((HR.out.2.1.alloc hws _).alloc (Nat.le_trans hws (by simp)) _).grown hg4 (Nat.le_trans hws (by simp; omega)) (fun k hk => by cases hk; exact Nat.le_refl _)
            have HX := Lib.hid (And.intro hbel hown4)
            clear hbel hown4 hg4
            go_wp2_with fail
            go_roundg (l0 - (i + 1))
            case measure => omega
            case rel => exact ⟨i + 1, hlt, by go_num, rfl, rfl, by rw [HR.out.2.2, flat_append]; exact HX.out.2, HX.out.1⟩
          · have htk : mkTok ks ss i = ⟨10, [], 0, i⟩ := by unfold mkTok; rw [hkg, hsg, hK, hW]; rfl
            rw [htk] at hnx
            have HR := Lib.hid (And.intro hown (And.intro hb hnx))
            clear hown hb hnx htk hK hW hkg hsg hk
            go_wp2_with (at_builtin; refine wpList_append_fits _ rfl _ _ 28 rfl w.heap.size 48 i0 7 Tryd.underlying28 HI.out.1 HI.out.2.2.1 w.heap.size i l0 (flat ((mkToks ks ss).take i)) rfl ((HR.out.1.alloc _).alloc _) ⟨wr.heap.size + 1, 0, none⟩ 1 1 (flat [⟨10, [], 0, i⟩]) rfl rfl (seven_in' ⟨10, [], 0, i⟩ ⟨#[]⟩ rfl (HN2.out _ _)) (one_cells _) (by omega) ?_; intro w4 hown4 hg4)
            have hbel : Below w.heap.size w w4 := ((HR.out.2.1.alloc hws _).alloc (Nat.le_trans hws (by simp)) _).grown hg4 (Nat.le_trans hws (by simp; omega)) (fun k hk => by cases hk; exact Nat.le_refl _)
            have HX := Lib.hid (And.intro hbel hown4)
            clear hbel hown4 hg4
            go_wp2_with fail
            go_roundg (l0 - (i + 1))
            case measure => omega
            case rel => exact ⟨i + 1, hlt, by go_num, rfl, rfl, by rw [HR.out.2.2, flat_append]; exact HX.out.2, HX.out.1⟩
        · rcases wsd_cases k with ⟨f0, hW⟩ | ⟨f0, hW⟩
          · have htk : mkTok ks ss i = ⟨30, [], 2, i⟩ := by unfold mkTok; rw [hkg, hsg, hK, hW]; rfl
            rw [htk] at hnx
            have HR := Lib.hid (And.intro hown (And.intro hb hnx))
            clear hown hb hnx htk hK hW hkg hsg hk
            go_wp2_with (at_builtin; refine wpList_append_fits _ rfl _ _ 28 rfl w.heap.size 48 i0 7 Tryd.underlying28 HI.out.1 HI.out.2.2.1 w.heap.size i l0 (flat ((mkToks ks ss).take i)) rfl ((HR.out.1.alloc _).alloc _) ⟨wr.heap.size + 1, 0, none⟩ 1 1 (flat [⟨30, [], 2, i⟩]) rfl rfl (seven_in' ⟨30, [], 2, i⟩ ⟨#[]⟩ rfl (HN2.out _ _)) (one_cells _) (by omega) ?_; intro w4 hown4 hg4)
            have hbel : Below w.heap.size w w4 := ((HR.out.2.1.alloc hws _).alloc (Nat.le_trans hws (by simp)) _).grown hg4 (Nat.le_trans hws (by simp; omega)) (fun k hk => by cases hk; exact Nat.le_refl _)
            have HX := Lib.hid (And.intro hbel hown4)
            clear hbel hown4 hg4
            go_wp2_with fail
            go_roundg (l0 - (i + 1))
            case measure => omega
            case rel => exact ⟨i + 1, hlt, by go_num, rfl, rfl, by rw [HR.out.2.2, flat_append]; exact HX.out.2, HX.out.1⟩
          · have htk : mkTok ks ss i = ⟨30, [], 0, i⟩ := by unfold mkTok; rw [hkg, hsg, hK, hW]; rfl
            rw [htk] at hnx
            have HR := Lib.hid (And.intro hown (And.intro hb hnx))
            clear hown hb hnx htk hK hW hkg hsg hk
            go_wp2_with (at_builtin; refine wpList_append_fits _ rfl _ _ 28 rfl w.heap.size 48 i0 7 Tryd.underlying28 HI.out.1 HI.out.2.2.1 w.heap.size i l0 (flat ((mkToks ks ss).take i)) rfl ((HR.out.1.alloc _).alloc _) ⟨wr.heap.size + 1, 0, none⟩ 1 1 (flat [⟨30, [], 0, i⟩]) rfl rfl (seven_in' ⟨30, [], 0, i⟩ ⟨#[]⟩ rfl (HN2.out _ _)) (one_cells _) (by omega) ?_; intro w4 hown4 hg4)
            have hbel : Below w.heap.size w w4 := ((HR.out.2.1.alloc hws _).alloc (Nat.le_trans hws (by simp)) _).grown hg4 (Nat.le_trans hws (by simp; omega)) (fun k hk => by cases hk; exact Nat.le_refl _)
            have HX := Lib.hid (And.intro hbel hown4)
            clear hbel hown4 hg4
            go_wp2_with fail
            go_roundg (l0 - (i + 1))
            case measure => omega
            case rel => exact ⟨i + 1, hlt, by go_num, rfl, rfl, by rw [HR.out.2.2, flat_append]; exact HX.out.2, HX.out.1⟩
end Go.Proofs.YtjinajfejbpicaaDoor
