/-
  The statement FnExternalsSingleWildcardPatternsToldSaid (github.com/evanw/esbuild/n011_243.FnExternalsSingleWildcardPatterns): the call returns true for every input, and the input reads afterwards as before; fmt's text told, the listed variables tied; conditions: those of the given card alone.
-/
import Derived.Test.YtkdkjcljdagakaaGreatFmtWalkD
import Derived.WalkKit
import Derived.ProofKit
import Derived.OpenShut
import Derived.ShutString
import Derived.ChangeOld
import Derived.Below
import Derived.SliceStrings
import Derived.Deep.Grids
import Derived.Test.YtkdkjcljdagakaaGreatFmtCards
import Derived.Stop.JoinedAt
import Derived.Stop.JoinedTold
import Derived.SizedLaws
import Derived.Test.YtkdkjcljdagakaaGreatFmtTie
import Derived.LaidMore
import Derived.Lay
import Derived.SevenTiedAt
namespace Go.Proofs.YtkdkjcljdagakaaGreatFmt.fnExternalsSingleWildcardPatterns
open Go.ChangeShapes Go.WideShapes Go.ChangeAt Go.RowKit
open Go.ChangeMaps (open_string shut_string)
open Go.Kit Go.Extern.Stop Go.Stop Go.Extern
set_option linter.unusedVariables false

theorem own : ownKnob Tryz.prog.godebug = none := by kernel_rfl
theorem laidOut : laidOutB Tryz.prog = true := by kernel_rfl
abbrev law : OpenSpec := OpenSpec.ofChange Rows.fnExternalsSingleWildcardPatternsSpec

noncomputable abbrev laidL : List (String × DataW Unit) := Rows.fnExternalsSingleWildcardPatternsRow.laid
theorem laid_met (os : Os) (args : Array Value) : laidMetH Tryz.prog laidL ((World.laidAll Tryz.prog os laidL).forCall (fun _ _ => 0) ⟨#[], args, []⟩).memory := by
  rw [MakeChecks.laidMetH_plain _ _ _ (by kernel_rfl)]; exact laidMet_laidAll _ (by kernel_rfl) (by kernel_rfl)
theorem wit {C : Checked} {H : Type} {enc : TypeId × Value → H} {os : Os} {s : OpenSpec} {conds : List PathCond} {apart : Bool} {l : List (String × DataW Unit)} {f : FuncId} {fn : Func} (w0 : World) (args : Array Value) (hos : w0.os = os)
    (hsh : (w0.forCall (fun _ _ => 0) ⟨#[], args, []⟩).Shaped C.prog) (hok : Input.okWideB C.prog (w0.forCall (fun _ _ => 0) ⟨#[], args, []⟩) f ⟨#[], args, []⟩ = true)
    (hrow : s.preRow enc C.prog fn conds apart l (w0.forCall (fun _ _ => 0) ⟨#[], args, []⟩).memory args) (F : Stop.Interp) :
    ∃ (w : World) (tape : Tape) (i : Input), w.os = os ∧ (w.forCall tape i).Shaped C.prog ∧ i.vars = [] ∧ Input.okWide C.prog (w.forCall tape i) .any w.heap.size f i ∧
      s.preRow enc C.prog fn conds apart l (w.forCall tape i).memory i.args ∧ ({ modest := false } : Assume).holds C.prog (lone (Frame.enter C.prog f i.args .normal) [] (w.forCall tape i)) ∧ F.answers tape :=
  ⟨w0, F.over fun _ _ => 0, ⟨#[], args, []⟩, hos, hsh, (Input.okWide_of_okWideB (base := 0) hok).1, (Input.okWide_of_okWideB (base := 0) hok).2, hrow, by
    simp only [Assume.holds]
    exact ⟨by simp, by simp, fun _ => F.over_modest Modest.zero, by simp, by simp⟩, F.over_answers _⟩
theorem shp (os : Os) : ((World.laidAll Tryz.prog os laidL).forCall (fun _ _ => 0) ⟨#[], #[.slice none 0 0], []⟩).Shaped Tryz.prog := World.shaped_of_ZipB (by kernel_rfl) (by kernel_rfl)
theorem okw (os : Os) : Input.okWideB Tryz.prog ((World.laidAll Tryz.prog os laidL).forCall (fun _ _ => 0) ⟨#[], #[.slice none 0 0], []⟩) 5 ⟨#[], #[.slice none 0 0], []⟩ = true := by kernel_rfl

set_option maxHeartbeats 1000000 in
set_option maxRecDepth 100000 in
theorem lifted (os : Os) (started : os.Started) (H : Type) (enc : TypeId × Value → H) :
    ReturnsInTold none {} Tryz.checked os 5 .any Input.okWide (law.preRow enc Tryz.prog Tryz.f5 [] false laidL) (fun F => (law.at F).post enc Tryz.prog Tryz.f5 false true false false) (aloneAtReturn Tryz.prog) nothingAlways := by
  refine returnsInTold_of_row (C := Tryz.checked) (s := law) (by kernel_rfl) own started (by kernel_rfl) Tryz.func5
    (wit (C := Tryz.checked) (enc := enc) (World.laidAll Tryz.prog os laidL) #[.slice none 0 0] (World.laidAll_os _ _ _) (shp os) (okw os) (OpenSpec.preRow_of_B rfl 8 (by kernel_rfl) (by kernel_rfl) (laid_met os _))) ?_
  intro F W base args ds gs before _ hF hval0 hW _ _ hsz _ _
  have hval : ∀ (j : Nat) t v, Tryz.f5.params[j]? = some t → args[j]? = some v → Value.okWide Tryz.prog W .any base t v := hval0
  have hW' := hW
  obtain ⟨p, q, hA0, hV, rfl, hfz, hnd⟩ := hW
  have hA : DataW.TrodAll enc Tryz.prog W 0 (fun _ => true) true Tryz.f5.params.toList args.toList ds p := hA0
  rw [Tryz.params5] at hA hval
  obtain ⟨v0, vs0, d0, ds0, p0, q0, hargs, rfl, rfl, h0, r0⟩ := trodAll_cons hA
  obtain ⟨rfl, rfl, rfl⟩ := trodAll_nil r0
  obtain rfl : args = #[v0] := by cases args; simp_all
  obtain ⟨rfl, rfl⟩ := trodVars_none hV
  obtain ⟨a0, len0, cap0, rfl⟩ := okWide_slice Tryz.underlying22 (hval 0 22 v0 rfl rfl)
  have k0 := h0
  have lt0 : ∀ x ∈ p0, x.block < W.heap.size := by obtain ⟨m, hm⟩ := k0; exact DataW.trod_lt m _ _ _ hm
  obtain ⟨z0, w0, ww0⟩ : ∃ zs : List ByteArray, InRow W a0 len0 cap0 (zs.map Value.string) ∧ ∀ s ∈ zs, s.size ≤ maxLen := by
    obtain ⟨fuel, hf⟩ := h0
    rcases open_strings Tryz.underlying22 Tryz.underlying9 (by kernel_rfl) hf with ⟨hcs, _⟩ | ⟨x, l, c, zs, hcs, _, hl, hm, hz, _, hcell, hwz⟩
    · simp [Value.cells] at hcs
      obtain ⟨rfl, rfl, rfl⟩ := hcs
      exact ⟨[], .inl ⟨rfl, rfl, rfl, rfl⟩, by simp⟩
    · simp [Value.cells] at hcs
      obtain ⟨rfl, rfl, rfl⟩ := hcs
      exact ⟨zs.take len0, inRow_of x _ _ zs Value.string ByteArray.empty hl hm (by simpa using hz) hcell, fun n hn => hwz n (List.mem_of_mem_take hn)⟩
  clear hA0 hval0
  refine (fnExternalsSingleWildcardPatterns_walk F.told a0 len0 cap0 z0 W hF w0 ww0).mono fun e W' ⟨he, bel⟩ => ?_
  subst he
  exact ⟨_, rfl, _, _, _, [], _, [], hW', trodAll_mk1 (shut_bool Tryz.underlying4 _), (trodAll_cons_mk (Below.trod laidOut (by kernel_rfl) (of_decide_eq_true (by kernel_rfl)) k0 bel lt0) trodAll_mk0), rfl, bel.frame _, fun h => by cases h⟩

theorem laidOut7 : laidOutB Tryz.pinned.checked.prog = true := by kernel_rfl
theorem stops : Tryz.pinned.checked.prog.stops = ["fmt.Sprintf"] := by kernel_rfl
theorem stopKnobs : Tryz.pinned.checked.prog.stopKnobs = [] := by kernel_rfl
theorem quiet (os : Os) : Stop.quiet Tryz.pinned.checked.prog os := by
  intro k hk
  rw [stopKnobs] at hk
  cases hk

theorem proved : Rows.FnExternalsSingleWildcardPatternsToldSaid :=
  Claim7.holds_of_told_tied_any_at .later 5 Tryz.f5 "fmt.Sprintf" [] [] _ _ _ _ _ (by kernel_rfl) rfl rfl rfl laidOut7 (by kernel_rfl) rfl ⟨rfl, rfl, rfl, rfl, rfl, rfl, rfl⟩ rfl rfl (by kernel_rfl) (by kernel_rfl) Tryz.func5 (by kernel_rfl)
    (of_decide_eq_true (by kernel_rfl)) (of_decide_eq_true (by kernel_rfl)) stops.symm rfl stopKnobs.symm (by kernel_rfl)
    (by kernel_rfl) (by kernel_rfl) (by kernel_rfl) (by kernel_rfl) (by kernel_rfl) (by kernel_rfl) (by kernel_rfl) (by kernel_rfl) (by kernel_rfl) rfl (by kernel_rfl) rfl rfl
    rfl rfl
    rfl (by kernel_rfl) (by kernel_rfl) (by kernel_rfl) (by decide) (by kernel_rfl) fnExternalsSingleWildcardPatterns_row_tie
    (OpenClaim.moreEntering_of (by kernel_rfl) (by kernel_rfl) (by kernel_rfl) (by kernel_rfl) (by kernel_rfl) (by kernel_rfl) (by kernel_rfl) (by kernel_rfl) (by kernel_rfl) (by kernel_rfl))
    ⟨_, WideRow.started_initial, quiet _⟩
    (fun os started _ H enc _ => lifted os started H enc)
#print axioms proved
end Go.Proofs.YtkdkjcljdagakaaGreatFmt.fnExternalsSingleWildcardPatterns
