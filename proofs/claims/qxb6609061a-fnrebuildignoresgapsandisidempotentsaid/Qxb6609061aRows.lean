/-
  No cell of these rows narrows 'for every input' (looked for: loops, veiled, ifaces, maps, wideKeys, modest, calm, conditions, laid).
  DERIVED. THE GIVEN ROWS OF THIS SEAT. 3 by the template 'for every input the law returns true; each argument reads behind the call as it read before'; 0 by the template 'total and deterministic' (their statements: Qxb6609061aTotals.lean).
  GIVEN WITH THE SEED: the statements are not yours to turn. If you find one false, say at which input.
  Laid BY PROGRAM, IN A SANDBOX (cutbox-rows.mjs): the forced cells as the released guide's own fill.sh prints them over the translation 77a94055c483550c… (all of the seat's roots in one cut). By AI agents, Wed Nov 11 2026. No macro, syntax, notation, axiom, sorry.
-/
import Derived.Test.Qxb6609061aChecked
import GoSem.Claim
import GoSem.ClaimJoined
import GoSem.ClaimMapViews
import Derived.JoinedTies
import Derived.KernelRfl
namespace Go.Proofs.Qxb6609061a
/- THE CELL 'sum', in the pinned program and in every row, IS THE sha256 OF THE DUMP (.gsa) THAT Qxb6609061aProg.lean LOADS. Nothing in Lean hashes anything: it is a label: what it is worth is what the hold of that sum in a sandbox is worth. -/
noncomputable def Try.pinned : Pinned := { name := "qxb6609061a", sum := "77a94055c483550c5a7eb0c544f7d11870bbc615f50de0d8d34d52eecbec23b8", checked := Try.checked }
namespace Rows
def none {H : Type} : Left H := { results := [], args := [] }

/-- 'zzlaws_internal_sched_b1.FnRebuildKeepsWaitingTasksAndBuildsTree': WHATEVER THE INPUT: true; the input reads as it did. -/
def fnRebuildKeepsWaitingTasksAndBuildsTreeSpec : ChangeSpec := { name := "fnRebuildKeepsWaitingTasksAndBuildsTree", fn := fun _ => fun
  | [d1, d2, d3, d4, d5, d6] => { results := [.lit (.bool true)], args := [d1, d2, d3, d4, d5, d6] }
  | _ => none }
def fnRebuildKeepsWaitingTasksAndBuildsTreeRow : OpenClaim := { program := "qxb6609061a", sum := "77a94055c483550c5a7eb0c544f7d11870bbc615f50de0d8d34d52eecbec23b8", func := "example.com/stretchwise/stretchwise/zzlaws_internal_sched_b1.FnRebuildKeepsWaitingTasksAndBuildsTree", spec := "fnRebuildKeepsWaitingTasksAndBuildsTree", plainKeys := false, apart := false }
def FnRebuildKeepsWaitingTasksAndBuildsTreeSaid : Prop := fnRebuildKeepsWaitingTasksAndBuildsTreeRow.holds Try.pinned (OpenSpec.ofChange fnRebuildKeepsWaitingTasksAndBuildsTreeSpec)

/-- ITS FALSE NEIGHBOUR: 'it returns false'. Refute it at one input. -/
def fnRebuildKeepsWaitingTasksAndBuildsTreeWrong : ChangeSpec := { name := "fnRebuildKeepsWaitingTasksAndBuildsTree", fn := fun _ => fun
  | [d1, d2, d3, d4, d5, d6] => { results := [.lit (.bool false)], args := [d1, d2, d3, d4, d5, d6] }
  | _ => none }
def FnRebuildKeepsWaitingTasksAndBuildsTreeWrongFalsely : Prop := fnRebuildKeepsWaitingTasksAndBuildsTreeRow.holds Try.pinned (OpenSpec.ofChange fnRebuildKeepsWaitingTasksAndBuildsTreeWrong)

/-- 'zzlaws_internal_sched_b1.FnRebuildIgnoresGapsAndIsIdempotent': WHATEVER THE INPUT: true; the input reads as it did. -/
def fnRebuildIgnoresGapsAndIsIdempotentSpec : ChangeSpec := { name := "fnRebuildIgnoresGapsAndIsIdempotent", fn := fun _ => fun
  | [d1, d2, d3, d4, d5, d6] => { results := [.lit (.bool true)], args := [d1, d2, d3, d4, d5, d6] }
  | _ => none }
def fnRebuildIgnoresGapsAndIsIdempotentRow : OpenClaim := { program := "qxb6609061a", sum := "77a94055c483550c5a7eb0c544f7d11870bbc615f50de0d8d34d52eecbec23b8", func := "example.com/stretchwise/stretchwise/zzlaws_internal_sched_b1.FnRebuildIgnoresGapsAndIsIdempotent", spec := "fnRebuildIgnoresGapsAndIsIdempotent", plainKeys := false, apart := false }
def FnRebuildIgnoresGapsAndIsIdempotentSaid : Prop := fnRebuildIgnoresGapsAndIsIdempotentRow.holds Try.pinned (OpenSpec.ofChange fnRebuildIgnoresGapsAndIsIdempotentSpec)

/-- ITS FALSE NEIGHBOUR: 'it returns false'. Refute it at one input. -/
def fnRebuildIgnoresGapsAndIsIdempotentWrong : ChangeSpec := { name := "fnRebuildIgnoresGapsAndIsIdempotent", fn := fun _ => fun
  | [d1, d2, d3, d4, d5, d6] => { results := [.lit (.bool false)], args := [d1, d2, d3, d4, d5, d6] }
  | _ => none }
def FnRebuildIgnoresGapsAndIsIdempotentWrongFalsely : Prop := fnRebuildIgnoresGapsAndIsIdempotentRow.holds Try.pinned (OpenSpec.ofChange fnRebuildIgnoresGapsAndIsIdempotentWrong)

/-- 'zzlaws_internal_sched_b1.FnNewRisingReadsOnlyAgeAndAgeMost': WHATEVER THE INPUT: true; the input reads as it did. -/
def fnNewRisingReadsOnlyAgeAndAgeMostSpec : ChangeSpec := { name := "fnNewRisingReadsOnlyAgeAndAgeMost", fn := fun _ => fun
  | [d1, d2, d3, d4, d5, d6] => { results := [.lit (.bool true)], args := [d1, d2, d3, d4, d5, d6] }
  | _ => none }
def fnNewRisingReadsOnlyAgeAndAgeMostRow : OpenClaim := { program := "qxb6609061a", sum := "77a94055c483550c5a7eb0c544f7d11870bbc615f50de0d8d34d52eecbec23b8", func := "example.com/stretchwise/stretchwise/zzlaws_internal_sched_b1.FnNewRisingReadsOnlyAgeAndAgeMost", spec := "fnNewRisingReadsOnlyAgeAndAgeMost", plainKeys := false, apart := false }
def FnNewRisingReadsOnlyAgeAndAgeMostSaid : Prop := fnNewRisingReadsOnlyAgeAndAgeMostRow.holds Try.pinned (OpenSpec.ofChange fnNewRisingReadsOnlyAgeAndAgeMostSpec)

/-- ITS FALSE NEIGHBOUR: 'it returns false'. Refute it at one input. -/
def fnNewRisingReadsOnlyAgeAndAgeMostWrong : ChangeSpec := { name := "fnNewRisingReadsOnlyAgeAndAgeMost", fn := fun _ => fun
  | [d1, d2, d3, d4, d5, d6] => { results := [.lit (.bool false)], args := [d1, d2, d3, d4, d5, d6] }
  | _ => none }
def FnNewRisingReadsOnlyAgeAndAgeMostWrongFalsely : Prop := fnNewRisingReadsOnlyAgeAndAgeMostRow.holds Try.pinned (OpenSpec.ofChange fnNewRisingReadsOnlyAgeAndAgeMostWrong)

end Rows
end Go.Proofs.Qxb6609061a
