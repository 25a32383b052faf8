/-
  A map of texts to truths as a look-up finds it, and what the rows' listed variables give the walks; conditions: the listed variables read as listed.
-/
import Derived.Test.YtjinajfejbpicaaDoorShelf
import Derived.Test.YtjinajfejbpicaaDoorRows
import Derived.Test.YtjinajfejbpicaaDoorStr
import Derived.Lib.LaidCase
import Derived.Lib.LaidU8T
import Derived.ProofKit
import Derived.OpenShut
import Derived.LaidMore
import Derived.Lay
import Derived.Stop.Joined
import Derived.Maps.Own
import Derived.WideKeyArgs
import Derived.WideKeyElems2
namespace Go.Proofs.YtjinajfejbpicaaDoor
open Go.ChangeShapes Go.WideShapes Go.ChangeAt Go.RowKit

/-- Block b of w is a map of texts to truths that reads as D. -/
def MapB (D : DataW Unit) (b : Nat) (w : World) : Prop :=
  ∃ R n, w.ownsMap Tryd.prog 9 R b n D ∧ (∀ v z, R v = some z → ∃ x, v = Value.bool x ∧ z = (DataW.lit (.bool x), [])) ∧ R (.bool false) = some (.lit (.bool false), [])
def bitOf : DataW Unit → Bool
  | .lit (.bool x) => x
  | _ => false
def look (D : DataW Unit) (l : List UInt8) : Bool := bitOf (D.atKey (.string l) (.lit (.bool false)))
theorem zero4 (w : World) : (zeroValue 4).run Tryd.prog w = .ok (.bool false) w := by kernel_rfl
theorem MapB.run {D : DataW Unit} {b : Nat} {w : World} (h : MapB D b w) (s : ByteArray) (hs : s.size ≤ maxLen) :
    (Instr.lookup 34 (.map (some b)) (.string s) false).run Tryd.prog w = .ok (.bool (look D s.data.toList)) w := by
  obtain ⟨R, n, h1, h2, h3⟩ := h
  obtain ⟨v, ps, hrun, hv⟩ := h1.lookup (Maps.string_keyed Tryd.underlying9) Tryd.underlying34 (zero4 w) h3 (WideMaps.keyOf_string_mk (s := s) Tryd.underlying9 hs)
  obtain ⟨x, rfl, hz⟩ := h2 _ _ hv
  rw [hrun]
  have e := (Prod.mk.inj hz).1
  unfold look
  rw [e]
  rfl
theorem MapB.up {D : DataW Unit} {b : Nat} {w w' : World} (h : MapB D b w) (hb : Below w.heap.size w w') : MapB D b w' := by
  obtain ⟨R, n, h1, h2, h3⟩ := h
  have hl := h1.lt
  obtain ⟨es, clock, e1, F, e2, e3⟩ := h1
  exact ⟨R, n, ⟨es, clock, (hb.block b hl).trans e1, F, e2, e3⟩, h2, h3⟩

def gName : String := "github.com/evanw/esbuild/internal/css_parser.genericFamilyNames"
def wName : String := "github.com/evanw/esbuild/internal/css_parser.cssWideAndReservedKeywords"
def genD : DataW Unit := Rows.laid_github_com_evanw_esbuild_internal_css_parser_genericFamilyNames
def wideD : DataW Unit := Rows.laid_github_com_evanw_esbuild_internal_css_parser_cssWideAndReservedKeywords

theorem map_of {W : World} {n : String} {D : DataW Unit} {g : Nat} (hn : D ≠ .nil) (hg : Tryd.prog.globalNamed n = some g) (ht : (Tryd.prog.globals[g]?).map (·.type) = some 34) (h : Lib.VarReads Tryd.prog W n D) : ∃ b, W.cell? ⟨g, 0, none⟩ = some (.map (some b)) ∧ MapB D b W := by
  obtain ⟨g0, t0, cs, f0, p0, hg0, ht0, hv0, hd0⟩ := h
  obtain rfl := Option.some.inj (hg.symm.trans hg0)
  obtain rfl := Option.some.inj (ht.symm.trans ht0)
  have hd1 := DataW.trod_le (Nat.le_add_right f0 2) hd0
  rcases WideElems.open_map Tryd.underlying34 hd1 with ⟨_, hx⟩ | ⟨bm, es, clock, m, hm, hcs, hb, _, F, hx⟩
  · exact absurd (Prod.mk.inj hx).1 hn
  · refine ⟨bm, ?_, _, es.size, ⟨es, clock, hb, F, Nat.le_refl _, (Prod.mk.inj hx).1⟩, fun v z hz => ?_, ?_⟩
    · have := World.var?_cell hg0 hv0 0
      rw [Array.eq_one_of_toList hcs] at this
      simpa using this
    · exact WideElems.elemAt_bool Tryd.underlying4 hz
    · obtain rfl : m = f0 + 1 := by omega
      exact WideElems.elemAt_bool_mk Tryd.underlying4 _ _ _ _

structure Tabs (w : World) : Prop where
  c : Lib.CaseVar 2 Lib.caseA w
  u : Lib.Utf8Tabs 3 4 w
  g : ∃ b, w.cell? ⟨0, 0, none⟩ = some (.map (some b)) ∧ MapB genD b w
  k : ∃ b, w.cell? ⟨1, 0, none⟩ = some (.map (some b)) ∧ MapB wideD b w
theorem Tabs.up {w w' : World} (h : Tabs w) (hb : Below w.heap.size w w') : Tabs w' := by
  refine ⟨Lib.CaseVar_below h.c hb, Utf8Tabs_below h.u hb, ?_, ?_⟩
  · obtain ⟨b, h1, h2⟩ := h.g
    exact ⟨b, (hb.cell (World.block_lt_of_cell? w _ h1)).trans h1, h2.up hb⟩
  · obtain ⟨b, h1, h2⟩ := h.k
    exact ⟨b, (hb.cell (World.block_lt_of_cell? w _ h1)).trans h1, h2.up hb⟩

noncomputable def laidL : List (String × DataW Unit) := Rows.fnMangleFontFamilyIsIdempotentRow.laid
theorem dCase : (Rows.laid_unicode_CaseRanges : DataW Unit) = Lib.caseData := by kernel_rfl
theorem dFirst : (Rows.laid_unicode_utf8_first : DataW Unit) = Lib.firstData := by kernel_rfl
theorem dAccept : (Rows.laid_unicode_utf8_acceptRanges : DataW Unit) = Lib.acceptData := by kernel_rfl

theorem tabs_of {W : World} (h : laidMetH Tryd.prog laidL W) : Tabs W := by
  rw [MakeChecks.laidMetH_plain _ _ _ (by kernel_rfl)] at h
  have h1 : Lib.VarReads Tryd.prog W "unicode.CaseRanges" Rows.laid_unicode_CaseRanges := Lib.laidMet.reads h (by simp [laidL, Rows.fnMangleFontFamilyIsIdempotentRow])
  have h2 : Lib.VarReads Tryd.prog W "unicode/utf8.first" Rows.laid_unicode_utf8_first := Lib.laidMet.reads h (by simp [laidL, Rows.fnMangleFontFamilyIsIdempotentRow])
  have h3 : Lib.VarReads Tryd.prog W "unicode/utf8.acceptRanges" Rows.laid_unicode_utf8_acceptRanges := Lib.laidMet.reads h (by simp [laidL, Rows.fnMangleFontFamilyIsIdempotentRow])
  have h4 : Lib.VarReads Tryd.prog W gName genD := Lib.laidMet.reads h (by simp [laidL, Rows.fnMangleFontFamilyIsIdempotentRow, gName, genD])
  have h5 : Lib.VarReads Tryd.prog W wName wideD := Lib.laidMet.reads h (by simp [laidL, Rows.fnMangleFontFamilyIsIdempotentRow, wName, wideD])
  rw [dCase] at h1
  rw [dFirst] at h2
  rw [dAccept] at h3
  refine ⟨caseVar_of_reads (ρ := Tryd.lays159_ren) { Tryd.lays159 with } (by kernel_rfl) ⟨by kernel_rfl, by kernel_rfl, by kernel_rfl, by kernel_rfl, by kernel_rfl, by kernel_rfl⟩ h1,
    utf8Tabs_of_readsT (ρ := Tryd.lays159_ren) ⟨by kernel_rfl, by kernel_rfl, by kernel_rfl, by kernel_rfl⟩ ⟨by kernel_rfl, by kernel_rfl, by kernel_rfl, by kernel_rfl, by kernel_rfl, by kernel_rfl, by kernel_rfl⟩ h2 h3, ?_, ?_⟩
  · exact map_of (by intro e; cases e) (by kernel_rfl) (by kernel_rfl) h4
  · exact map_of (by intro e; cases e) (by kernel_rfl) (by kernel_rfl) h5

end Go.Proofs.YtjinajfejbpicaaDoor
