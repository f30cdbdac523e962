/-
  No cell of these rows narrows 'for every input' (looked for: loops, veiled, ifaces, maps, wideKeys, modest, calm, conditions, laid).
  DERIVED. THE GIVEN ROWS OF THIS SEAT. 1 by the template 'for every input the law returns true; each argument reads behind the call as it read before'; 0 by the template 'total and deterministic' (their statements: Qxb6612815aTotals.lean).
  GIVEN WITH THE SEED: the statements are not yours to turn. If you find one false, say at which input.
  Laid BY PROGRAM, IN A SANDBOX (cutbox-rows.mjs): the forced cells as the released guide's own fill.sh prints them over the translation c315c61fde7a905a… (all of the seat's roots in one cut). By AI agents, Wed Nov 11 2026. No macro, syntax, notation, axiom, sorry.
-/
import Derived.Test.Qxb6612815aChecked
import GoSem.Claim
import GoSem.ClaimJoined
import GoSem.ClaimMapViews
import Derived.JoinedTies
import Derived.KernelRfl
namespace Go.Proofs.Qxb6612815a
/- THE CELL 'sum', in the pinned program and in every row, IS THE sha256 OF THE DUMP (.gsa) THAT Qxb6612815aProg.lean LOADS. Nothing in Lean hashes anything: it is a label: what it is worth is what the hold of that sum in a sandbox is worth. -/
noncomputable def Try.pinned : Pinned := { name := "qxb6612815a", sum := "c315c61fde7a905abcbd5df0b37e852fc2044c370db4b3c3ef73585a9f7f802a", checked := Try.checked }
namespace Rows
def none {H : Type} : Left H := { results := [], args := [] }

/-- 'zzlaws_internal_coord_b1.FnCollectorEndNeverRepeatsGeneration': WHATEVER THE INPUT: true; the input reads as it did. -/
def fnCollectorEndNeverRepeatsGenerationSpec : ChangeSpec := { name := "fnCollectorEndNeverRepeatsGeneration", fn := fun _ => fun
  | [d1, d2, d3, d4] => { results := [.lit (.bool true)], args := [d1, d2, d3, d4] }
  | _ => none }
def fnCollectorEndNeverRepeatsGenerationRow : OpenClaim := { program := "qxb6612815a", sum := "c315c61fde7a905abcbd5df0b37e852fc2044c370db4b3c3ef73585a9f7f802a", func := "example.com/slackline/slackline/zzlaws_internal_coord_b1.FnCollectorEndNeverRepeatsGeneration", spec := "fnCollectorEndNeverRepeatsGeneration", inPlace := ["(*internal/sync.Mutex).Lock", "internal/race.Disable", "sync/atomic.CompareAndSwapInt32", "internal/race.Enable", "internal/race.Acquire", "(*internal/sync.Mutex).lockSlow", "internal/sync.runtime_canSpin", "internal/sync.runtime_doSpin", "internal/sync.throw", "internal/sync.runtime_nanotime", "internal/sync.runtime_SemacquireMutex", "sync/atomic.AddInt32", "(*internal/sync.Mutex).Unlock", "internal/race.ReleaseMerge", "(*internal/sync.Mutex).unlockSlow", "internal/sync.fatal", "internal/sync.runtime_Semrelease"], apart := false }
def FnCollectorEndNeverRepeatsGenerationSaid : Prop := fnCollectorEndNeverRepeatsGenerationRow.holds Try.pinned (OpenSpec.ofChange fnCollectorEndNeverRepeatsGenerationSpec)

/-- ITS FALSE NEIGHBOUR: 'it returns false'. Refute it at one input. -/
def fnCollectorEndNeverRepeatsGenerationWrong : ChangeSpec := { name := "fnCollectorEndNeverRepeatsGeneration", fn := fun _ => fun
  | [d1, d2, d3, d4] => { results := [.lit (.bool false)], args := [d1, d2, d3, d4] }
  | _ => none }
def FnCollectorEndNeverRepeatsGenerationWrongFalsely : Prop := fnCollectorEndNeverRepeatsGenerationRow.holds Try.pinned (OpenSpec.ofChange fnCollectorEndNeverRepeatsGenerationWrong)

end Rows
end Go.Proofs.Qxb6612815a
