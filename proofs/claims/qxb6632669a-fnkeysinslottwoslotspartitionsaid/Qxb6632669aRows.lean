/-
  No cell of these rows narrows 'for every input' (looked for: loops, veiled, ifaces, maps, wideKeys, modest, calm, conditions, laid).
  DERIVED. THE GIVEN ROWS OF THIS SEAT. 2 by the template 'for every input the law returns true; each argument reads behind the call as it read before'; 0 by the template 'total and deterministic' (their statements: Qxb6632669aTotals.lean).
  GIVEN WITH THE SEED: the statements are not yours to turn. If you find one false, say at which input.
  Laid BY PROGRAM, IN A SANDBOX (cutbox-rows.mjs): the forced cells as the released guide's own fill.sh prints them over the translation 3cac3ee939c37ed6… (all of the seat's roots in one cut). By AI agents, Wed Nov 11 2026. No macro, syntax, notation, axiom, sorry.
-/
import Derived.Test.Qxb6632669aChecked
import GoSem.Claim
import GoSem.ClaimJoined
import GoSem.ClaimMapViews
import Derived.JoinedTies
import Derived.KernelRfl
namespace Go.Proofs.Qxb6632669a
/- THE CELL 'sum', in the pinned program and in every row, IS THE sha256 OF THE DUMP (.gsa) THAT Qxb6632669aProg.lean LOADS. Nothing in Lean hashes anything: it is a label: what it is worth is what the hold of that sum in a sandbox is worth. -/
noncomputable def Try.pinned : Pinned := { name := "qxb6632669a", sum := "3cac3ee939c37ed6205f6b044af61ec814afcaf3f7aa68a5a4a8c7951d9fccee", checked := Try.checked }
namespace Rows
def none {H : Type} : Left H := { results := [], args := [] }

/-- 'zzlaws_internal_keyspace_b1.FnKeysInSlotExactSubset': WHATEVER THE INPUT: true; the input reads as it did. -/
def fnKeysInSlotExactSubsetSpec : ChangeSpec := { name := "fnKeysInSlotExactSubset", fn := fun _ => fun
  | [d1, d2, d3] => { results := [.lit (.bool true)], args := [d1, d2, d3] }
  | _ => none }
def fnKeysInSlotExactSubsetRow : OpenClaim := { program := "qxb6632669a", sum := "3cac3ee939c37ed6205f6b044af61ec814afcaf3f7aa68a5a4a8c7951d9fccee", func := "example.com/slotwise/slotwise/zzlaws_internal_keyspace_b1.FnKeysInSlotExactSubset", spec := "fnKeysInSlotExactSubset", inPlace := ["(*sync.RWMutex).RLock", "internal/race.Read", "internal/race.Disable", "sync/atomic.AddInt32", "sync.runtime_SemacquireRWMutexR", "internal/race.Enable", "internal/race.Acquire", "(*sync.RWMutex).RUnlock", "internal/race.ReleaseMerge", "(*sync.RWMutex).rUnlockSlow", "sync.fatal", "sync.runtime_Semrelease"], apart := false }
def FnKeysInSlotExactSubsetSaid : Prop := fnKeysInSlotExactSubsetRow.holds Try.pinned (OpenSpec.ofChange fnKeysInSlotExactSubsetSpec)

/-- ITS FALSE NEIGHBOUR: 'it returns false'. Refute it at one input. -/
def fnKeysInSlotExactSubsetWrong : ChangeSpec := { name := "fnKeysInSlotExactSubset", fn := fun _ => fun
  | [d1, d2, d3] => { results := [.lit (.bool false)], args := [d1, d2, d3] }
  | _ => none }
def FnKeysInSlotExactSubsetWrongFalsely : Prop := fnKeysInSlotExactSubsetRow.holds Try.pinned (OpenSpec.ofChange fnKeysInSlotExactSubsetWrong)

/-- 'zzlaws_internal_keyspace_b1.FnKeysInSlotTwoSlotsPartition': WHATEVER THE INPUT: true; the input reads as it did. -/
def fnKeysInSlotTwoSlotsPartitionSpec : ChangeSpec := { name := "fnKeysInSlotTwoSlotsPartition", fn := fun _ => fun
  | [d1, d2, d3, d4] => { results := [.lit (.bool true)], args := [d1, d2, d3, d4] }
  | _ => none }
def fnKeysInSlotTwoSlotsPartitionRow : OpenClaim := { program := "qxb6632669a", sum := "3cac3ee939c37ed6205f6b044af61ec814afcaf3f7aa68a5a4a8c7951d9fccee", func := "example.com/slotwise/slotwise/zzlaws_internal_keyspace_b1.FnKeysInSlotTwoSlotsPartition", spec := "fnKeysInSlotTwoSlotsPartition", inPlace := ["(*sync.RWMutex).RLock", "internal/race.Read", "internal/race.Disable", "sync/atomic.AddInt32", "sync.runtime_SemacquireRWMutexR", "internal/race.Enable", "internal/race.Acquire", "(*sync.RWMutex).RUnlock", "internal/race.ReleaseMerge", "(*sync.RWMutex).rUnlockSlow", "sync.fatal", "sync.runtime_Semrelease"], apart := false }
def FnKeysInSlotTwoSlotsPartitionSaid : Prop := fnKeysInSlotTwoSlotsPartitionRow.holds Try.pinned (OpenSpec.ofChange fnKeysInSlotTwoSlotsPartitionSpec)

/-- ITS FALSE NEIGHBOUR: 'it returns false'. Refute it at one input. -/
def fnKeysInSlotTwoSlotsPartitionWrong : ChangeSpec := { name := "fnKeysInSlotTwoSlotsPartition", fn := fun _ => fun
  | [d1, d2, d3, d4] => { results := [.lit (.bool false)], args := [d1, d2, d3, d4] }
  | _ => none }
def FnKeysInSlotTwoSlotsPartitionWrongFalsely : Prop := fnKeysInSlotTwoSlotsPartitionRow.holds Try.pinned (OpenSpec.ofChange fnKeysInSlotTwoSlotsPartitionWrong)

end Rows
end Go.Proofs.Qxb6632669a
