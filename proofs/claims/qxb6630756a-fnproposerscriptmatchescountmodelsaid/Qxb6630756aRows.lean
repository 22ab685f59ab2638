/-
  No cell of these rows narrows 'for every input' (looked for: loops, veiled, ifaces, maps, wideKeys, modest, calm, conditions, laid).
  DERIVED. THE GIVEN ROWS OF THIS SEAT. 2 by the template 'for every input the law returns true; each argument reads behind the call as it read before'; 0 by the template 'total and deterministic' (their statements: Qxb6630756aTotals.lean).
  GIVEN WITH THE SEED: the statements are not yours to turn. If you find one false, say at which input.
  Laid BY PROGRAM, IN A SANDBOX (cutbox-rows.mjs): the forced cells as the released guide's own fill.sh prints them over the translation 23e5091f2ff1f258… (all of the seat's roots in one cut). By AI agents, Wed Nov 11 2026. No macro, syntax, notation, axiom, sorry.
-/
import Derived.Test.Qxb6630756aChecked
import GoSem.Claim
import GoSem.ClaimJoined
import GoSem.ClaimMapViews
import Derived.JoinedTies
import Derived.KernelRfl
namespace Go.Proofs.Qxb6630756a
/- THE CELL 'sum', in the pinned program and in every row, IS THE sha256 OF THE DUMP (.gsa) THAT Qxb6630756aProg.lean LOADS. Nothing in Lean hashes anything: it is a label: what it is worth is what the hold of that sum in a sandbox is worth. -/
noncomputable def Try.pinned : Pinned := { name := "qxb6630756a", sum := "23e5091f2ff1f258c87e981867975b5a62c0d3b763590bf6484e75490a88ea50", checked := Try.checked }
namespace Rows
def none {H : Type} : Left H := { results := [], args := [] }

/-- 'zzlaws_root_b1.FnProposerScriptMatchesCountModel': WHATEVER THE INPUT: true; the input reads as it did. -/
def fnProposerScriptMatchesCountModelSpec : ChangeSpec := { name := "fnProposerScriptMatchesCountModel", fn := fun _ => fun
  | [d1, d2, d3, d4] => { results := [.lit (.bool true)], args := [d1, d2, d3, d4] }
  | _ => none }
def fnProposerScriptMatchesCountModelRow : OpenClaim := { program := "qxb6630756a", sum := "23e5091f2ff1f258c87e981867975b5a62c0d3b763590bf6484e75490a88ea50", func := "example.com/lockround/lockround/zzlaws_root_b1.FnProposerScriptMatchesCountModel", spec := "fnProposerScriptMatchesCountModel", inPlace := ["(*internal/sync.Mutex).Lock", "internal/race.Disable", "sync/atomic.CompareAndSwapInt32", "internal/race.Enable", "internal/race.Acquire", "(*internal/sync.Mutex).lockSlow", "internal/sync.runtime_canSpin", "internal/sync.runtime_doSpin", "internal/sync.throw", "internal/sync.runtime_nanotime", "internal/sync.runtime_SemacquireMutex", "sync/atomic.AddInt32", "(*internal/sync.Mutex).Unlock", "internal/race.ReleaseMerge", "(*internal/sync.Mutex).unlockSlow", "internal/sync.fatal", "internal/sync.runtime_Semrelease"], plainKeys := false, apart := false }
def FnProposerScriptMatchesCountModelSaid : Prop := fnProposerScriptMatchesCountModelRow.holds Try.pinned (OpenSpec.ofChange fnProposerScriptMatchesCountModelSpec)

/-- ITS FALSE NEIGHBOUR: 'it returns false'. Refute it at one input. -/
def fnProposerScriptMatchesCountModelWrong : ChangeSpec := { name := "fnProposerScriptMatchesCountModel", fn := fun _ => fun
  | [d1, d2, d3, d4] => { results := [.lit (.bool false)], args := [d1, d2, d3, d4] }
  | _ => none }
def FnProposerScriptMatchesCountModelWrongFalsely : Prop := fnProposerScriptMatchesCountModelRow.holds Try.pinned (OpenSpec.ofChange fnProposerScriptMatchesCountModelWrong)

/-- 'zzlaws_root_b1.FnProposerCycleCountsPowersAndRepeats': WHATEVER THE INPUT: true; the input reads as it did. -/
def fnProposerCycleCountsPowersAndRepeatsSpec : ChangeSpec := { name := "fnProposerCycleCountsPowersAndRepeats", fn := fun _ => fun
  | [d1, d2, d3] => { results := [.lit (.bool true)], args := [d1, d2, d3] }
  | _ => none }
def fnProposerCycleCountsPowersAndRepeatsRow : OpenClaim := { program := "qxb6630756a", sum := "23e5091f2ff1f258c87e981867975b5a62c0d3b763590bf6484e75490a88ea50", func := "example.com/lockround/lockround/zzlaws_root_b1.FnProposerCycleCountsPowersAndRepeats", spec := "fnProposerCycleCountsPowersAndRepeats", inPlace := ["(*internal/sync.Mutex).Lock", "internal/race.Disable", "sync/atomic.CompareAndSwapInt32", "internal/race.Enable", "internal/race.Acquire", "(*internal/sync.Mutex).lockSlow", "internal/sync.runtime_canSpin", "internal/sync.runtime_doSpin", "internal/sync.throw", "internal/sync.runtime_nanotime", "internal/sync.runtime_SemacquireMutex", "sync/atomic.AddInt32", "(*internal/sync.Mutex).Unlock", "internal/race.ReleaseMerge", "(*internal/sync.Mutex).unlockSlow", "internal/sync.fatal", "internal/sync.runtime_Semrelease"], plainKeys := false, apart := false }
def FnProposerCycleCountsPowersAndRepeatsSaid : Prop := fnProposerCycleCountsPowersAndRepeatsRow.holds Try.pinned (OpenSpec.ofChange fnProposerCycleCountsPowersAndRepeatsSpec)

/-- ITS FALSE NEIGHBOUR: 'it returns false'. Refute it at one input. -/
def fnProposerCycleCountsPowersAndRepeatsWrong : ChangeSpec := { name := "fnProposerCycleCountsPowersAndRepeats", fn := fun _ => fun
  | [d1, d2, d3] => { results := [.lit (.bool false)], args := [d1, d2, d3] }
  | _ => none }
def FnProposerCycleCountsPowersAndRepeatsWrongFalsely : Prop := fnProposerCycleCountsPowersAndRepeatsRow.holds Try.pinned (OpenSpec.ofChange fnProposerCycleCountsPowersAndRepeatsWrong)

end Rows
end Go.Proofs.Qxb6630756a
