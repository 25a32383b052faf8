/-
  The contracts of making the parser and of a step at a generic name, at nothing and at a token of another kind; conditions: those that each names.
-/
import Derived.Test.YtjinajfejbpicaaDoorTok
import Derived.Deep.RegionHeld3
namespace Go.Proofs.YtjinajfejbpicaaDoor
open Go.RowKit

theorem seven_in {W : World} {k : Nat} {ty : TypeId} (t : Tok) (h : W.heap[k]? = some (.cells #[.pointer none, .string (S t.text), .int .i32 t.loc, .int .u32 0, .int .u16 0, .int .u8 t.kind, .int .u8 t.ws] ty (0, 0))) : ∀ j u, (flat [t])[j]? = some u → W.cell? ((⟨k, 0, none⟩ : Addr).add j) = some u := by
  intro j u hu
  rw [flat_one] at hu
  exact World.news_of_block h j u hu
set_option maxHeartbeats 1000000 in
set_option maxRecDepth 100000 in
theorem step_nil (pb : Nat) (a : Option Addr) (cap : Nat) (w0 w : World) (v : Value) (n : Nat) (xs : List Value) (hb : Below w0.heap.size w0 w) (hown : w.ownsRow w0.heap.size 48 7 v n xs) : Calls Tryd.prog 22 #[.pointer (some ⟨pb, 0, none⟩), v, .slice a 0 cap] w (StepEnd w0 w v n xs none) := by
  go_enter Tryd.func22, Tryd.ntmps22
  go_wp2_with fail
  exact bodyPost_ret (v := .tuple #[.slice none 0 0, .slice none 0 0, .bool false]) (by simp [results, Tryd.results22, go_sem]) rfl ⟨hb, ⟨_, Run.refl hown⟩, rfl⟩

set_option maxHeartbeats 1000000 in
set_option maxRecDepth 100000 in
theorem step_gen (pb g o : Nat) (mw : Bool) (cap : Nat) (t : Tok) (ts : List Tok) (w0 w : World) (v : Value) (n : Nat) (xs : List Value) (hc : Ctx w0 pb mw v w) (hts : TokIn w0 (some ⟨g, o, none⟩) (ts.length + 1) cap (t :: ts)) (hown : w.ownsRow w0.heap.size 48 7 v n xs) (hn : n ≤ 8388608) (hsz : t.text.length ≤ maxLen)
    (hk : t.kind = 29) (hG : G t.text = true) : Calls Tryd.prog 22 #[.pointer (some ⟨pb, 0, none⟩), v, .slice (some ⟨g, o, none⟩) (ts.length + 1 : Nat) cap] w (StepEnd w0 w v n xs (some ([t], ts))) := by
  obtain ⟨i0, hi, hz0, hz1, hz2⟩ := info_parts info48
  obtain ⟨g', o', e, hh, hg⟩ := hts.head (i := 0) rfl
  cases e
  have hH := hh.up hc.below hg
  obtain ⟨bm, hm1, hm2⟩ := hc.tabs.g
  have hlk := fun wx (hx : Below w0.heap.size w0 wx) => (hm2.up hx).run (S t.text) (by rw [S_size]; exact hsz)
  rw [S_data] at hlk
  change ∀ wx, Below w0.heap.size w0 wx → (Instr.lookup 34 (.map (some bm)) (.string (S t.text)) false).run Tryd.prog wx = .ok (.bool (G t.text)) wx at hlk
  rw [hG] at hlk
  have hgl := fun (wx : World) (hx : Below w0.heap.size w0 wx) => (hx.cell (World.block_lt_of_cell? w0 _ hm1)).trans hm1
  obtain ⟨c0, c1, c2, c3, c4, c5, c6⟩ := hH
  have q1 : (t.kind == 29) = true := by rw [hk]; rfl
  have hk1 := hlk _ (hc.below.alloc hc.below.size (.cells #[.pointer none, .string (S t.text), .int .i32 t.loc, .int .u32 0, .int .u16 0, .int .u8 t.kind, .int .u8 t.ws] 48))
  have hk2 := hgl _ (hc.below.alloc hc.below.size (.cells #[.pointer none, .string (S t.text), .int .i32 t.loc, .int .u32 0, .int .u16 0, .int .u8 t.kind, .int .u8 t.ws] 48))
  simp only [Nat.zero_mul, Nat.add_zero] at c0 c1 c2 c3 c4 c5 c6
  have hcap : ts.length + 1 ≤ cap ∧ cap ≤ maxLen := ⟨hts.2.1, hts.2.2.1⟩
  have HI := Lib.hid (And.intro hi (And.intro hz0 (And.intro hz1 hz2)))
  have HC := Lib.hid (And.intro hc (And.intro hts hown))
  have HLK := Lib.hid hlk
  have HGL := Lib.hid hgl
  obtain ⟨L, hL⟩ : ∃ L, ts.length = L := ⟨_, rfl⟩
  rw [hL] at hcap
  obtain ⟨hcap1, hcap2⟩ := hcap
  unfold maxLen at hcap2
  have HLL := Lib.hid hL
  rw [hL]
  have hbs := hc.below.size
  clear hi hz0 hz1 hz2 hh hG hk hlk hgl hc hts hown hm1 hm2 hL
  have HN := Lib.hid (fun o : Obj => show ((w.alloc (.cells #[.pointer none, .string (S t.text), .int .i32 t.loc, .int .u32 0, .int .u16 0, .int .u8 t.kind, .int .u8 t.ws] 48)).alloc o).heap[w.heap.size + 1]? = some o by
    have := heap_alloc_new (w.alloc (.cells #[.pointer none, .string (S t.text), .int .i32 t.loc, .int .u32 0, .int .u16 0, .int .u8 t.kind, .int .u8 t.ws] 48)) o
    rwa [World.size_alloc] at this)
  have hi1 : (1 : Int) ≤ (L : Int) + 1 := by omega
  have hi2 : (L : Int) + 1 ≤ (cap : Int) := by omega
  by_cases hc1 : cap = 1
  all_goals go_enter Tryd.func22, Tryd.ntmps22
  all_goals go_wp2_with fail
  all_goals go_region_law (refine step_keep (by rfl) (.tmp 31) (.tmp 33) (by rfl) w0.heap.size v n xs (by rfl) ((HC.out.2.2.alloc _).alloc _).drew ⟨w.heap.size + 1, 0, none⟩ 1 1 (flat [t]) (by rfl) (by rfl) (seven_in t (HN.out _)) (one_cells t) (by omega) (by omega) (by simp; omega) (w.heap.size + 1 + 1) (by simp) ?_; intro g1 cap1 w1 hkk; obtain ⟨hown1, hg1, hat1, hlt1, hkp⟩ := hkk)
  all_goals (
    have hbel : Below w0.heap.size w0 w1 := ((((HC.out.1.below.alloc hbs _).alloc (Nat.le_trans hbs (by simp)) _).drew)).grown hg1 (Nat.le_trans hbs (by simp; omega)) (fun k hk => own_lt HC.out.2.2 k hk)
    have HX := Lib.hid (And.intro hbel hown1)
    have HXR := Lib.hid (((((Run.refl HC.out.2.2).alloc _).alloc _).drew).app hown1 hg1 hat1 (by simp) hkp)
    clear hbel hown1 hg1 hat1 hkp
    go_wp2_with fail)
  · have htl := HC.out.2.1.tail (some ⟨g, o, none⟩) (fun h => absurd hc1 h)
    rw [hc1] at htl
    exact bodyPost_ret (v := .tuple #[.slice (some ⟨g1, 0, none⟩) (n + 1) cap1, .slice (some ⟨g, o, none⟩) L 0, .bool true]) (by simp [results, Tryd.results22, go_sem]) rfl ⟨HX.out.1, ⟨_, HXR.out⟩, _, _, _, by rw [HLL.out], by simpa using htl, HX.out.2, HXR.out⟩
  · have htl := HC.out.2.1.tail (some ⟨g, o + 7, none⟩) (fun _ => rfl)
    exact bodyPost_ret (v := .tuple #[.slice (some ⟨g1, 0, none⟩) (n + 1) cap1, .slice (some ⟨g, o + 7, none⟩) L (cap - 1), .bool true]) (by simp [results, Tryd.results22, go_sem]) rfl ⟨HX.out.1, ⟨_, HXR.out⟩, _, _, _, by rw [HLL.out], by simpa using htl, HX.out.2, HXR.out⟩
end Go.Proofs.YtjinajfejbpicaaDoor
