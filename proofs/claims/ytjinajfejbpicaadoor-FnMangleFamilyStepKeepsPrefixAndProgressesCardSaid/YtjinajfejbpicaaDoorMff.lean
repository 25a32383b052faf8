/-
  The contracts of a step at every list of tokens and of mangleFontFamily; conditions: those that each names.
-/
import Derived.Test.YtjinajfejbpicaaDoorIdn
import Derived.Test.YtjinajfejbpicaaDoorStr3
import Derived.Test.YtjinajfejbpicaaDoorPrs
namespace Go.Proofs.YtjinajfejbpicaaDoor
open Go.RowKit

theorem step_any (pb : Nat) (mw : Bool) (a : Option Addr) (len cap : Nat) (ts : List Tok) (w0 w : World) (v : Value) (n : Nat) (xs : List Value) (hc : Ctx w0 pb mw v w) (hts : TokIn w0 a len cap ts) (hown : w.ownsRow w0.heap.size 48 7 v n xs) (hn : n + ts.length ≤ 8388608) (hsz : ∀ x ∈ ts, x.text.length ≤ 4194304) :
    Calls Tryd.prog 22 #[.pointer (some ⟨pb, 0, none⟩), v, .slice a len cap] w (StepEnd w0 w v n xs (step V G mw ts)) := by
  have hl := hts.1
  cases ts with
  | nil =>
    obtain rfl : len = 0 := hl.symm
    exact step_nil pb a cap w0 w v n xs hc.below hown
  | cons t r =>
    obtain rfl : len = r.length + 1 := hl.symm
    obtain ⟨g, o, rfl, _, _⟩ := hts.head (i := 0) rfl
    have ht := hsz t (by simp)
    rw [List.length_cons] at hn
    by_cases hk : t.kind = 29
    · cases hG : G t.text
      · exact step_ident pb g o mw cap t r w0 w v n xs hc hts hown (by omega) hsz hk hG
      · have := step_gen pb g o mw cap t r w0 w v n xs hc hts hown (by omega) (by unfold maxLen; omega) hk hG
        rw [step, if_pos ⟨hk, hG⟩]
        exact this
    · by_cases hk2 : t.kind = 36
      · have hk3 : t.kind = KS := hk2
        rw [step, if_neg (fun e => hk e.1), if_pos hk3, expand]
        cases hV : (spSplit t.text).all V
        · exact step_str_no pb g o mw cap t r w0 w v n xs hc hts hown (by omega) ht hk2 hV
        · exact step_str_yes pb g o mw cap t r w0 w v n xs hc hts hown (by omega) ht hk2 hV
      · have hk3 : ¬ t.kind = KS := hk2
        have hk4 : ¬ t.kind = KI := hk
        rw [step, if_neg (fun e => hk e.1), if_neg hk3, if_neg hk4]
        exact step_other pb g o mw cap t r w0 w v n xs hc hts hown hk hk2

/-- How much a list of tokens can make. -/
def wt : List Tok → Nat
  | [] => 0
  | t :: r => t.text.length + 2 + wt r
theorem wt_append : ∀ a b : List Tok, wt (a ++ b) = wt a + wt b
  | [], b => by simp [wt]
  | t :: a, b => by rw [List.cons_append, wt, wt, wt_append a b]; omega
theorem wt_len : ∀ a : List Tok, 2 * a.length ≤ wt a
  | [] => Nat.le_refl _
  | t :: a => by have := wt_len a; rw [wt, List.length_cons]; omega
theorem step_wt {mw : Bool} {ts o r : List Tok} (h : step V G mw ts = some (o, r)) : o.length + wt r < wt ts ∧ r.length < ts.length ∧ (∃ d, ts = d ++ r) := by
  cases ts with
  | nil => cases h
  | cons t s =>
    rw [step] at h
    split at h
    · cases h
      exact ⟨by rw [wt]; simp, by simp, [t], rfl⟩
    · split at h
      · cases h
        refine ⟨?_, by simp, [t], rfl⟩
        rw [wt]
        have h1 : (expand V mw t).length ≤ t.text.length + 1 := by
          unfold expand
          split
          · unfold idents; rw [List.length_mapIdx]; exact spSplit_len _
          · simp
        omega
      · split at h
        · split at h
          · next hk _ =>
            cases h
            have e : t :: s = (t :: s).takeWhile (fun u => decide (u.kind = KI)) ++ (t :: s).dropWhile (fun u => decide (u.kind = KI)) := List.takeWhile_append_dropWhile.symm
            have hne : (t :: s).takeWhile (fun u => decide (u.kind = KI)) ≠ [] := by rw [List.takeWhile_cons, decide_eq_true hk, if_pos rfl]; simp
            have hp := List.length_pos_iff.2 hne
            have hw := wt_len ((t :: s).takeWhile (fun u => decide (u.kind = KI)))
            refine ⟨?_, ?_, _, e⟩
            · conv => rhs; rw [e, wt_append]
              omega
            · conv => rhs; rw [e, List.length_append]
              omega
          · cases h
        · cases h
theorem mangle_fuel {mw : Bool} : ∀ (n k : Nat) (l : List Tok), l.length < n → l.length < k → mangle V G mw n l = mangle V G mw k l
  | 0, _, _, h, _ => by omega
  | n + 1, 0, _, _, h => by omega
  | n + 1, k + 1, l, h1, h2 => by
    unfold mangle
    cases hs : step V G mw l with
    | none => rfl
    | some p =>
      obtain ⟨o, r⟩ := p
      cases r with
      | nil => rfl
      | cons c s =>
        have := (step_wt hs).2.1
        rw [List.length_cons] at this
        show (if c.kind = KC then _ else _) = (if c.kind = KC then _ else _)
        rw [mangle_fuel n k s (by omega) (by omega)]
/-- What is to come, when acc is made and r is left. -/
def cont (mw : Bool) (acc : List Tok) : List Tok → Option (List Tok)
  | [] => some acc
  | c :: s => if c.kind = KC then (mangle V G mw (s.length + 1) s).map fun x => acc ++ c :: x else none
theorem mangle_cont (mw : Bool) (l : List Tok) : mangle V G mw (l.length + 1) l = match step V G mw l with | none => none | some (o, r) => cont mw o r := by
  rw [mangle]
  cases hs : step V G mw l with
  | none => rfl
  | some p =>
    obtain ⟨o, r⟩ := p
    cases r with
    | nil => rfl
    | cons c s =>
      have := (step_wt hs).2.1
      rw [List.length_cons] at this
      show (if c.kind = KC then _ else _) = (if c.kind = KC then _ else _)
      rw [mangle_fuel l.length (s.length + 1) s (by omega) (by omega)]
theorem cont_next (mw : Bool) (acc : List Tok) (c : Tok) (s : List Tok) (hc : c.kind = KC) : cont mw acc (c :: s) = match step V G mw s with | none => none | some (o, r) => cont mw (acc ++ [c] ++ o) r := by
  rw [cont, if_pos hc, mangle_cont]
  cases hs : step V G mw s with
  | none => rfl
  | some p =>
    obtain ⟨o, r⟩ := p
    cases r with
    | nil => simp [cont]
    | cons d q =>
      simp only [cont]
      split
      · rw [Option.map_map]
        congr 1
        funext x
        simp
      · rfl

def MffEnd (w0 : World) (r : Option (List Tok)) (e : Ending) (w' : World) : Prop :=
  Below w0.heap.size w0 w' ∧ match r with
  | none => e = .returned (.tuple #[.slice none 0 0, .bool false])
  | some o => ∃ v, e = .returned (.tuple #[v, .bool true]) ∧ w'.ownsRow w0.heap.size 48 7 v o.length (flat o)
def MffRel (w0 : World) (mw : Bool) (T : List Tok) (gk : Nat) (s6 s7 : Value) (wx : World) : Prop :=
  ∃ (acc r : List Tok) (a : Option Addr) (cap : Nat), mangle V G mw (T.length + 1) T = cont mw acc r ∧ s7 = .slice a r.length cap ∧ TokIn w0 a r.length cap r ∧ wx.ownsRow w0.heap.size 48 7 s6 acc.length (flat acc) ∧ Below w0.heap.size w0 wx ∧ acc.length + wt r ≤ wt T ∧ (∃ d, T = d ++ r) ∧ gk = r.length

set_option maxHeartbeats 16000000 in
set_option maxRecDepth 100000 in
theorem mff_any (pb : Nat) (mw : Bool) (a : Option Addr) (len cap : Nat) (T : List Tok) (w0 : World) (hT : Tabs w0) (hp : w0.cell? ⟨pb, 50, none⟩ = some (.bool mw)) (hts : TokIn w0 a len cap T) (hsz : ∀ x ∈ T, x.text.length ≤ 4194304) (hwt : wt T ≤ 8388608) :
    Calls Tryd.prog 20 #[.pointer (some ⟨pb, 0, none⟩), .slice a len cap] w0 (MffEnd w0 (mangle V G mw (T.length + 1) T)) := by
  obtain ⟨i0, hi, hz0, hz1, hz2⟩ := info_parts info48
  have HI := Lib.hid (And.intro hi (And.intro hz0 (And.intro hz1 hz2)))
  have hTl := wt_len T
  have hS0 := step_any pb mw a len cap T w0 w0 (.slice none 0 0) 0 [] ⟨hT, hp, by simp [Value.ownBlock], Below.refl _ _⟩ hts (World.ownsRow_nil _ _ _ _) (by omega) hsz
  have HS := Lib.hid (fun (a : Option Addr) (len cap : Nat) (r : List Tok) (w : World) (v : Value) (n : Nat) (xs : List Value) (hb : Below w0.heap.size w0 w) (hr : TokIn w0 a len cap r) (ho : w.ownsRow w0.heap.size 48 7 v n xs) (hn : n + r.length ≤ 8388608) (hx : ∀ x ∈ r, x.text.length ≤ 4194304) => step_any pb mw a len cap r w0 w v n xs ⟨hT, (hb.cell (World.block_lt_of_cell? w0 _ hp)).trans hp, fun e => by have h1 := (ho.lt pb e).1; have h2 : pb < w0.heap.size := World.block_lt_of_cell? w0 _ hp; omega, hb⟩ hr ho hn hx)
  have HSZ := Lib.hid hsz
  have hmc := mangle_cont mw T
  clear hi hz0 hz1 hz2 hT hp hts hsz hTl
  cases hst : step V G mw T with
  | none =>
    rw [hst] at hS0 hmc
    have HM := Lib.hid (And.intro hS0 hmc)
    clear hS0 hmc hst
    go_enter Tryd.func20, Tryd.ntmps20
    go_wp2_with fail
    refine HM.out.1.mono ?_
    rintro e w1 ⟨hb, _, rfl⟩
    have HB := Lib.hid hb
    clear hb
    go_wp2_with fail
    refine bodyPost_ret (v := .tuple #[.slice none 0 0, .bool false]) (by simp [results, Tryd.results20, go_sem]) rfl ?_
    rw [HM.out.2]
    exact ⟨HB.out, rfl⟩
  | some p =>
    obtain ⟨o, r0⟩ := p
    have hsw := step_wt hst
    rw [hst] at hS0 hmc
    have HM := Lib.hid (And.intro hS0 (And.intro hmc hsw))
    clear hS0 hmc hst hsw
    go_enter Tryd.func20, Tryd.ntmps20
    go_wp2_with fail
    refine HM.out.1.mono ?_
    rintro e w1 ⟨hb, _, v1, a1, cap1, rfl, htk, ho, _⟩
    have HZ := Lib.hid (⟨o, r0, a1, cap1, HM.out.2.1, rfl, htk, by simpa using ho, hb, Nat.le_of_lt HM.out.2.2.1, HM.out.2.2.2.2, rfl⟩ : MffRel w0 mw T r0.length v1 (.slice a1 r0.length cap1) w1)
    clear hb htk ho
    go_wp2_with fail
    go_loopg [6, 7, 8] r0.length (fun gk s6 s7 s8 wx => MffRel w0 mw T gk s6 s7 wx ∧ s8 = .bool true)
    case atStart => exact ⟨HZ.out, rfl⟩
    case round =>
      clear HZ
      obtain ⟨⟨acc, r, a, cap, hmc, rfl, htk, hown, hbw, hwt2, hdd, rfl⟩, rfl⟩ := hrel
      have hws := hbw.size
      have hcap := htk.2.1
      have hcap2 := htk.2.2.1
      unfold maxLen at hcap2
      have HR := Lib.hid (And.intro hmc (And.intro htk (And.intro hown (And.intro hbw (And.intro hwt2 hdd)))))
      clear hmc htk hown hbw hdd
      cases r with
      | nil =>
        have hl0 : ([] : List Tok).length = 0 := rfl
        rw [hl0]
        clear hwt2 hcap
        go_wp2_with fail
        refine bodyPost_ret (v := .tuple #[u6, .bool true]) (by simp [results, Tryd.results20, go_sem]) rfl ?_
        rw [HR.out.1]
        exact ⟨HR.out.2.2.2.1, u6, rfl, HR.out.2.2.1⟩
      | cons c s =>
        obtain ⟨g, o4, rfl, hhd, hg⟩ := HR.out.2.1.head (i := 0) rfl
        simp only [Nat.zero_mul, Nat.add_zero] at hhd
        obtain ⟨c0, c1, c2, c3, c4, c5, c6⟩ := hhd.up HR.out.2.2.2.1 hg
        have hlc : (c :: s).length = s.length + 1 := rfl
        obtain ⟨L, hL⟩ : ∃ L, s.length = L := ⟨_, rfl⟩
        rw [hlc, hL] at hcap ⊢
        have HLL := Lib.hid hL
        have KEEP := Lib.hid (fun (wx : World) (hb : Below w0.heap.size w0 wx) => let h := hhd.up hb hg; (⟨h.c0, h.c1, h.c2, h.c3, h.c4, h.c5, h.c6⟩ : wx.cell? ⟨g, o4, none⟩ = some (.pointer none) ∧ wx.cell? ⟨g, o4 + 1, none⟩ = some (.string (S c.text)) ∧ wx.cell? ⟨g, o4 + 2, none⟩ = some (.int .i32 c.loc) ∧ wx.cell? ⟨g, o4 + 3, none⟩ = some (.int .u32 0) ∧ wx.cell? ⟨g, o4 + 4, none⟩ = some (.int .u16 0) ∧ wx.cell? ⟨g, o4 + 5, none⟩ = some (.int .u8 c.kind) ∧ wx.cell? ⟨g, o4 + 6, none⟩ = some (.int .u8 c.ws)))
        clear hlc hL hhd
        have hp1 : (0 : Int) < (L : Int) + 1 := by omega
        have hi1 : (1 : Int) ≤ (L : Int) + 1 := by omega
        have hi2 : (L : Int) + 1 ≤ (cap : Int) := by omega
        by_cases hk : c.kind = 10
        case neg =>
          have q1 : (c.kind == 10) = false := by rw [beq_eq_false_iff_ne]; exact hk
          have HK := Lib.hid hk
          clear hk hwt2
          go_wp2_with fail
          refine bodyPost_ret (v := .tuple #[.slice none 0 0, .bool false]) (by simp [results, Tryd.results20, go_sem]) rfl ?_
          have hk5 : ¬ c.kind = KC := HK.out
          rw [HR.out.1, cont, if_neg hk5]
          exact ⟨HR.out.2.2.2.1, rfl⟩
        case pos =>
          have q1 : (c.kind == 10) = true := by rw [hk]; rfl
          have HKC := Lib.hid (show c.kind = KC from hk)
          clear hk
          have hwc := HR.out.2.2.2.2.1
          rw [wt] at hwc
          have hws2 := wt_len s
          have HBL := Lib.hid (fun (o : Obj) (w3 : World) (hg : ((wr.alloc o).drew).grownBy w3 u6.ownBlock) => (((HR.out.2.2.2.1.alloc hws o).drew).grown hg (Nat.le_trans hws (by simp)) (fun k hk => own_lt HR.out.2.2.1 k hk) : Below w0.heap.size w0 w3))
          have hsx : ∀ x ∈ s, x.text.length ≤ 4194304 := fun x hx => by
            obtain ⟨d, hd⟩ := HR.out.2.2.2.2.2
            exact HSZ.out x (by rw [hd]; simp [hx])
          have HQ := Lib.hid (fun (a' : Option Addr) (cap' cap1 g1 : Nat) (w3 : World) (hb : Below w0.heap.size w0 w3) (hr : TokIn w0 a' L cap' s) (ho : w3.ownsRow w0.heap.size 48 7 (.slice (some ⟨g1, 0, none⟩) (acc.length + 1) cap1) (acc.length + 1) (flat acc ++ flat [c])) => HS.out a' L cap' s w3 _ _ _ hb hr ho (by omega) hsx)
          have hR := HR.out.2.1
          clear hsx hwc
          cases hst : step V G mw s with
          | none =>
            rw [hst] at HQ
            have HST := Lib.hid hst
            clear hst
            by_cases hc1 : cap = 1
            · have htl := hR.tail (some ⟨g, o4, none⟩) (fun h => absurd hc1 h)
              have e1 : (c :: s).length - 1 = L := by rw [List.length_cons, HLL.out]; rfl
              rw [e1, hc1] at htl
              have HTL := Lib.hid (show TokIn w0 (some ⟨g, o4, none⟩) L 0 s by simpa using htl)
              clear htl hR
              go_wp2_with fail
              go_region_held3 (fun w' => w'.cell? ⟨g, o4, none⟩ = some (.pointer none) ∧ w'.cell? ⟨g, o4 + 1, none⟩ = some (.string (S c.text)) ∧ w'.cell? ⟨g, o4 + 2, none⟩ = some (.int .i32 c.loc) ∧ w'.cell? ⟨g, o4 + 3, none⟩ = some (.int .u32 0) ∧ w'.cell? ⟨g, o4 + 4, none⟩ = some (.int .u16 0) ∧ w'.cell? ⟨g, o4 + 5, none⟩ = some (.int .u8 c.kind) ∧ w'.cell? ⟨g, o4 + 6, none⟩ = some (.int .u8 c.ws)) (first | go_keep | exact KEEP.out _ hbel | exact KEEP.out _ hb4)
                ((first | (refine step_append_lies _ (by rfl) (.tmp 30) (.tmp 34) 28 (by rfl) w0.heap.size 48 i0 (.agg #[.pointer none, .string ⟨#[]⟩, .int .i32 0, .int .u32 0, .int .u16 0, .int .u8 0, .int .u8 0]) 7 40 Tryd.underlying28 HI.out.1 HI.out.2.1 HI.out.2.2.1 HI.out.2.2.2 rfl (by omega) _ acc.length (flat acc) (by rfl) ((HR.out.2.2.1.alloc _).drew) ⟨wr.heap.size, 0, none⟩ 1 1 (flat [c]) (by rfl) (by rfl) (seven_in c (heap_alloc_new wr _)) (one_cells c) (by omega) (by unfold maxLen; omega) (by omega) (by simp; omega) (wr.heap.size + 1) (by simp) ?_; intro g1 cap1 w3 hown1 hg1 hat1 hlt1; have hbel := HBL.out _ _ hg1) | (go_at_call 22; refine (HQ.out _ _ cap1 g1 _ hbel HTL.out hown1).mono ?_; rintro e w4 ⟨hb4, _, rfl⟩)))
              have HB4 := Lib.hid hb4
              clear hb4
              go_wp2_with fail
              refine bodyPost_ret (v := .tuple #[.slice none 0 0, .bool false]) (by simp [results, Tryd.results20, go_sem]) rfl ?_
              rw [HR.out.1, cont_next _ _ _ _ HKC.out, HST.out]
              exact ⟨HB4.out, rfl⟩
            · have htl := hR.tail (some ⟨g, o4 + 7, none⟩) (fun _ => rfl)
              have e1 : (c :: s).length - 1 = L := by rw [List.length_cons, HLL.out]; rfl
              rw [e1] at htl
              have HTL := Lib.hid (show TokIn w0 (some ⟨g, o4 + 7, none⟩) L (cap - 1) s by simpa using htl)
              clear htl hR
              go_wp2_with fail
              go_region_held3 (fun w' => w'.cell? ⟨g, o4, none⟩ = some (.pointer none) ∧ w'.cell? ⟨g, o4 + 1, none⟩ = some (.string (S c.text)) ∧ w'.cell? ⟨g, o4 + 2, none⟩ = some (.int .i32 c.loc) ∧ w'.cell? ⟨g, o4 + 3, none⟩ = some (.int .u32 0) ∧ w'.cell? ⟨g, o4 + 4, none⟩ = some (.int .u16 0) ∧ w'.cell? ⟨g, o4 + 5, none⟩ = some (.int .u8 c.kind) ∧ w'.cell? ⟨g, o4 + 6, none⟩ = some (.int .u8 c.ws)) (first | go_keep | exact KEEP.out _ hbel | exact KEEP.out _ hb4)
                ((first | (refine step_append_lies _ (by rfl) (.tmp 30) (.tmp 34) 28 (by rfl) w0.heap.size 48 i0 (.agg #[.pointer none, .string ⟨#[]⟩, .int .i32 0, .int .u32 0, .int .u16 0, .int .u8 0, .int .u8 0]) 7 40 Tryd.underlying28 HI.out.1 HI.out.2.1 HI.out.2.2.1 HI.out.2.2.2 rfl (by omega) _ acc.length (flat acc) (by rfl) ((HR.out.2.2.1.alloc _).drew) ⟨wr.heap.size, 0, none⟩ 1 1 (flat [c]) (by rfl) (by rfl) (seven_in c (heap_alloc_new wr _)) (one_cells c) (by omega) (by unfold maxLen; omega) (by omega) (by simp; omega) (wr.heap.size + 1) (by simp) ?_; intro g1 cap1 w3 hown1 hg1 hat1 hlt1; have hbel := HBL.out _ _ hg1) | (go_at_call 22; refine (HQ.out _ _ cap1 g1 _ hbel HTL.out hown1).mono ?_; rintro e w4 ⟨hb4, _, rfl⟩)))
              have HB4 := Lib.hid hb4
              clear hb4
              go_wp2_with fail
              refine bodyPost_ret (v := .tuple #[.slice none 0 0, .bool false]) (by simp [results, Tryd.results20, go_sem]) rfl ?_
              rw [HR.out.1, cont_next _ _ _ _ HKC.out, HST.out]
              exact ⟨HB4.out, rfl⟩
          | some p2 =>
            obtain ⟨o2, r2⟩ := p2
            rw [hst] at HQ
            have HST := Lib.hid hst
            clear hst
            by_cases hc1 : cap = 1
            · have htl := hR.tail (some ⟨g, o4, none⟩) (fun h => absurd hc1 h)
              have e1 : (c :: s).length - 1 = L := by rw [List.length_cons, HLL.out]; rfl
              rw [e1, hc1] at htl
              have HTL := Lib.hid (show TokIn w0 (some ⟨g, o4, none⟩) L 0 s by simpa using htl)
              clear htl hR
              go_wp2_with fail
              go_region_held3 (fun w' => w'.cell? ⟨g, o4, none⟩ = some (.pointer none) ∧ w'.cell? ⟨g, o4 + 1, none⟩ = some (.string (S c.text)) ∧ w'.cell? ⟨g, o4 + 2, none⟩ = some (.int .i32 c.loc) ∧ w'.cell? ⟨g, o4 + 3, none⟩ = some (.int .u32 0) ∧ w'.cell? ⟨g, o4 + 4, none⟩ = some (.int .u16 0) ∧ w'.cell? ⟨g, o4 + 5, none⟩ = some (.int .u8 c.kind) ∧ w'.cell? ⟨g, o4 + 6, none⟩ = some (.int .u8 c.ws)) (first | go_keep | exact KEEP.out _ hbel | exact KEEP.out _ hb4)
                ((first | (refine step_append_lies _ (by rfl) (.tmp 30) (.tmp 34) 28 (by rfl) w0.heap.size 48 i0 (.agg #[.pointer none, .string ⟨#[]⟩, .int .i32 0, .int .u32 0, .int .u16 0, .int .u8 0, .int .u8 0]) 7 40 Tryd.underlying28 HI.out.1 HI.out.2.1 HI.out.2.2.1 HI.out.2.2.2 rfl (by omega) _ acc.length (flat acc) (by rfl) ((HR.out.2.2.1.alloc _).drew) ⟨wr.heap.size, 0, none⟩ 1 1 (flat [c]) (by rfl) (by rfl) (seven_in c (heap_alloc_new wr _)) (one_cells c) (by omega) (by unfold maxLen; omega) (by omega) (by simp; omega) (wr.heap.size + 1) (by simp) ?_; intro g1 cap1 w3 hown1 hg1 hat1 hlt1; have hbel := HBL.out _ _ hg1) | (go_at_call 22; refine (HQ.out _ _ cap1 g1 _ hbel HTL.out hown1).mono ?_; rintro e w4 ⟨hb4, _, v4, a4, cap4, rfl, htk4, hown4, _⟩)))
              have HB4 := Lib.hid (And.intro hb4 (And.intro htk4 hown4))
              clear hb4 htk4 hown4
              go_wp2_with fail
              go_roundg r2.length
              case measure =>
                have h9 := (step_wt HST.out).2.1
                show r2.length < s.length + 1
                omega
              case rel => exact ⟨⟨acc ++ [c] ++ o2, r2, a4, cap4, by rw [HR.out.1, cont_next _ _ _ _ HKC.out, HST.out], rfl, HB4.out.2.1, by rw [flat_append, flat_append, List.length_append, List.length_append]; exact HB4.out.2.2, HB4.out.1, by
                  have h1 := (step_wt HST.out).1
                  have h2 := HR.out.2.2.2.2.1
                  rw [wt] at h2
                  simp only [List.length_append, List.length_cons, List.length_nil]
                  omega, by
                  obtain ⟨d1, h1⟩ := HR.out.2.2.2.2.2
                  obtain ⟨d2, h2⟩ := (step_wt HST.out).2.2
                  exact ⟨d1 ++ c :: d2, by rw [h1, h2]; simp⟩, rfl⟩, rfl⟩
            · have htl := hR.tail (some ⟨g, o4 + 7, none⟩) (fun _ => rfl)
              have e1 : (c :: s).length - 1 = L := by rw [List.length_cons, HLL.out]; rfl
              rw [e1] at htl
              have HTL := Lib.hid (show TokIn w0 (some ⟨g, o4 + 7, none⟩) L (cap - 1) s by simpa using htl)
              clear htl hR
              go_wp2_with fail
              go_region_held3 (fun w' => w'.cell? ⟨g, o4, none⟩ = some (.pointer none) ∧ w'.cell? ⟨g, o4 + 1, none⟩ = some (.string (S c.text)) ∧ w'.cell? ⟨g, o4 + 2, none⟩ = some (.int .i32 c.loc) ∧ w'.cell? ⟨g, o4 + 3, none⟩ = some (.int .u32 0) ∧ w'.cell? ⟨g, o4 + 4, none⟩ = some (.int .u16 0) ∧ w'.cell? ⟨g, o4 + 5, none⟩ = some (.int .u8 c.kind) ∧ w'.cell? ⟨g, o4 + 6, none⟩ = some (.int .u8 c.ws)) (first | go_keep | exact KEEP.out _ hbel | exact KEEP.out _ hb4)
                ((first | (refine step_append_lies _ (by rfl) (.tmp 30) (.tmp 34) 28 (by rfl) w0.heap.size 48 i0 (.agg #[.pointer none, .string ⟨#[]⟩, .int .i32 0, .int .u32 0, .int .u16 0, .int .u8 0, .int .u8 0]) 7 40 Tryd.underlying28 HI.out.1 HI.out.2.1 HI.out.2.2.1 HI.out.2.2.2 rfl (by omega) _ acc.length (flat acc) (by rfl) ((HR.out.2.2.1.alloc _).drew) ⟨wr.heap.size, 0, none⟩ 1 1 (flat [c]) (by rfl) (by rfl) (seven_in c (heap_alloc_new wr _)) (one_cells c) (by omega) (by unfold maxLen; omega) (by omega) (by simp; omega) (wr.heap.size + 1) (by simp) ?_; intro g1 cap1 w3 hown1 hg1 hat1 hlt1; have hbel := HBL.out _ _ hg1) | (go_at_call 22; refine (HQ.out _ _ cap1 g1 _ hbel HTL.out hown1).mono ?_; rintro e w4 ⟨hb4, _, v4, a4, cap4, rfl, htk4, hown4, _⟩)))
              have HB4 := Lib.hid (And.intro hb4 (And.intro htk4 hown4))
              clear hb4 htk4 hown4
              go_wp2_with fail
              go_roundg r2.length
              case measure =>
                have h9 := (step_wt HST.out).2.1
                show r2.length < s.length + 1
                omega
              case rel => exact ⟨⟨acc ++ [c] ++ o2, r2, a4, cap4, by rw [HR.out.1, cont_next _ _ _ _ HKC.out, HST.out], rfl, HB4.out.2.1, by rw [flat_append, flat_append, List.length_append, List.length_append]; exact HB4.out.2.2, HB4.out.1, by
                  have h1 := (step_wt HST.out).1
                  have h2 := HR.out.2.2.2.2.1
                  rw [wt] at h2
                  simp only [List.length_append, List.length_cons, List.length_nil]
                  omega, by
                  obtain ⟨d1, h1⟩ := HR.out.2.2.2.2.2
                  obtain ⟨d2, h2⟩ := (step_wt HST.out).2.2
                  exact ⟨d1 ++ c :: d2, by rw [h1, h2]; simp⟩, rfl⟩, rfl⟩
end Go.Proofs.YtjinajfejbpicaaDoor
