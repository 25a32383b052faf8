/-
  No cell of these rows narrows 'for every input' (looked for: loops, veiled, ifaces, maps, wideKeys, modest, calm, conditions, laid).
  DERIVED. THE GIVEN ROWS OF THIS SEAT. 1 by the template 'for every input the law returns true; each argument reads behind the call as it read before'; 0 by the template 'total and deterministic' (their statements: YtglchiomdojjoaaGreatFmtTotals.lean).
  GIVEN WITH THE SEED: the statements are not yours to turn. If you find one false, say at which input.
  Laid BY PROGRAM, IN A SANDBOX (cutbox-rows.mjs): the forced cells as the released guide's own fill.sh prints them over the translation 1ae67a8d99e00b9f… (all of the seat's roots in one cut). By AI agents, Wed Nov 11 2026. No macro, syntax, notation, axiom, sorry.
-/
import Derived.Test.YtglchiomdojjoaaGreatFmtChecked
import GoSem.Claim
import GoSem.ClaimJoined
import GoSem.ClaimMapViews
import Derived.JoinedTies
import Derived.KernelRfl
namespace Go.Proofs.YtglchiomdojjoaaGreatFmt
/- THE CELL 'sum', in the pinned program and in every row, IS THE sha256 OF THE DUMP (.gsa) THAT YtglchiomdojjoaaGreatFmtProg.lean LOADS. Nothing in Lean hashes anything: it is a label: what it is worth is what the hold of that sum in a sandbox is worth. -/
noncomputable def Tryz.pinned : Pinned := { name := "ytglchiomdojjoaagreatfmt", sum := "1ae67a8d99e00b9fef123c1831835b110738af34f07c6ad4a9557edecdf75bde", checked := Tryz.checked }
namespace Rows
def none {H : Type} : Left H := { results := [], args := [] }

/-- 'n011_280.FnBroadcastBuildResultFailedBuildKeepsBaseline': WHATEVER THE INPUT: true; the input reads as it did. -/
def fnBroadcastBuildResultFailedBuildKeepsBaselineSpec : ChangeSpec := { name := "fnBroadcastBuildResultFailedBuildKeepsBaseline", fn := fun _ => fun
  | [d1, d2, d3, d4, d5] => { results := [.lit (.bool true)], args := [d1, d2, d3, d4, d5] }
  | _ => none }
def fnBroadcastBuildResultFailedBuildKeepsBaselineRow : OpenClaim := { program := "ytglchiomdojjoaagreatfmt", sum := "1ae67a8d99e00b9fef123c1831835b110738af34f07c6ad4a9557edecdf75bde", func := "github.com/evanw/esbuild/n011_280.FnBroadcastBuildResultFailedBuildKeepsBaseline", spec := "fnBroadcastBuildResultFailedBuildKeepsBaseline", stops := ["fmt.Sprintf"], inPlace := ["(*internal/sync.Mutex).Lock", "internal/race.Disable", "sync/atomic.CompareAndSwapInt32", "internal/race.Enable", "internal/race.Acquire", "(*internal/sync.Mutex).lockSlow", "internal/sync.runtime_canSpin", "internal/sync.runtime_doSpin", "internal/sync.throw", "internal/sync.runtime_nanotime", "internal/sync.runtime_SemacquireMutex", "sync/atomic.AddInt32", "internal/bytealg.IndexByteString", "fmt.Sprintf", "internal/abi.NoEscape", "(*internal/sync.Mutex).Unlock", "internal/race.ReleaseMerge", "(*internal/sync.Mutex).unlockSlow", "internal/sync.fatal", "internal/sync.runtime_Semrelease"], unfollowed := true, recurses := true, apart := false }
/-- NO THEOREM (fmt's text is open here; it may be false): for the released tool's asking of the row's closed facts alone. THE STATEMENT IS 'FnBroadcastBuildResultFailedBuildKeepsBaselineToldSaid' (YtglchiomdojjoaaGreatFmtCards.lean). -/
def FnBroadcastBuildResultFailedBuildKeepsBaselineFormAsk : Prop := fnBroadcastBuildResultFailedBuildKeepsBaselineRow.holds Tryz.pinned (OpenSpec.ofChange fnBroadcastBuildResultFailedBuildKeepsBaselineSpec)

/-- ITS FALSE NEIGHBOUR: 'it returns false'. Refute it at one input. -/
def fnBroadcastBuildResultFailedBuildKeepsBaselineWrong : ChangeSpec := { name := "fnBroadcastBuildResultFailedBuildKeepsBaseline", fn := fun _ => fun
  | [d1, d2, d3, d4, d5] => { results := [.lit (.bool false)], args := [d1, d2, d3, d4, d5] }
  | _ => none }
def FnBroadcastBuildResultFailedBuildKeepsBaselineWrongFormAsk : Prop := fnBroadcastBuildResultFailedBuildKeepsBaselineRow.holds Tryz.pinned (OpenSpec.ofChange fnBroadcastBuildResultFailedBuildKeepsBaselineWrong)

end Rows
end Go.Proofs.YtglchiomdojjoaaGreatFmt
