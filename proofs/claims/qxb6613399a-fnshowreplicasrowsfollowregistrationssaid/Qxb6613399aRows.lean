/-
  No cell of these rows narrows 'for every input' (looked for: loops, veiled, ifaces, maps, wideKeys, modest, calm, conditions, laid).
  DERIVED. THE GIVEN ROWS OF THIS SEAT. 4 by the template 'for every input the law returns true; each argument reads behind the call as it read before'; 0 by the template 'total and deterministic' (their statements: Qxb6613399aTotals.lean).
  GIVEN WITH THE SEED: the statements are not yours to turn. If you find one false, say at which input.
  Laid BY PROGRAM, IN A SANDBOX (cutbox-rows.mjs): the forced cells as the released guide's own fill.sh prints them over the translation 342d1af3f56f0c94… (all of the seat's roots in one cut). By AI agents, Wed Nov 11 2026. No macro, syntax, notation, axiom, sorry.
-/
import Derived.Test.Qxb6613399aChecked
import GoSem.Claim
import GoSem.ClaimJoined
import GoSem.ClaimMapViews
import Derived.JoinedTies
import Derived.KernelRfl
namespace Go.Proofs.Qxb6613399a
/- THE CELL 'sum', in the pinned program and in every row, IS THE sha256 OF THE DUMP (.gsa) THAT Qxb6613399aProg.lean LOADS. Nothing in Lean hashes anything: it is a label: what it is worth is what the hold of that sum in a sandbox is worth. -/
noncomputable def Try.pinned : Pinned := { name := "qxb6613399a", sum := "342d1af3f56f0c942c894f813c66c5d2da64f0336407fe29fef64b74fe9a66f1", checked := Try.checked }
namespace Rows
def none {H : Type} : Left H := { results := [], args := [] }

/-- 'zzlaws_internal_standin_b1.FnRollbackDropsExactlyItsCreations': WHATEVER THE INPUT: true; the input reads as it did. -/
def fnRollbackDropsExactlyItsCreationsSpec : ChangeSpec := { name := "fnRollbackDropsExactlyItsCreations", fn := fun _ => fun
  | [d1, d2] => { results := [.lit (.bool true)], args := [d1, d2] }
  | _ => none }
def fnRollbackDropsExactlyItsCreationsRow : OpenClaim := { program := "qxb6613399a", sum := "342d1af3f56f0c942c894f813c66c5d2da64f0336407fe29fef64b74fe9a66f1", func := "example.com/helmsward/helmsward/zzlaws_internal_standin_b1.FnRollbackDropsExactlyItsCreations", spec := "fnRollbackDropsExactlyItsCreations", apart := false }
def FnRollbackDropsExactlyItsCreationsSaid : Prop := fnRollbackDropsExactlyItsCreationsRow.holds Try.pinned (OpenSpec.ofChange fnRollbackDropsExactlyItsCreationsSpec)

/-- ITS FALSE NEIGHBOUR: 'it returns false'. Refute it at one input. -/
def fnRollbackDropsExactlyItsCreationsWrong : ChangeSpec := { name := "fnRollbackDropsExactlyItsCreations", fn := fun _ => fun
  | [d1, d2] => { results := [.lit (.bool false)], args := [d1, d2] }
  | _ => none }
def FnRollbackDropsExactlyItsCreationsWrongFalsely : Prop := fnRollbackDropsExactlyItsCreationsRow.holds Try.pinned (OpenSpec.ofChange fnRollbackDropsExactlyItsCreationsWrong)

/-- 'zzlaws_internal_standin_b1.FnCountOfJoinedCreationsAddsUp': WHATEVER THE INPUT: true; the input reads as it did. -/
def fnCountOfJoinedCreationsAddsUpSpec : ChangeSpec := { name := "fnCountOfJoinedCreationsAddsUp", fn := fun _ => fun
  | [d1, d2, d3] => { results := [.lit (.bool true)], args := [d1, d2, d3] }
  | _ => none }
def fnCountOfJoinedCreationsAddsUpRow : OpenClaim := { program := "qxb6613399a", sum := "342d1af3f56f0c942c894f813c66c5d2da64f0336407fe29fef64b74fe9a66f1", func := "example.com/helmsward/helmsward/zzlaws_internal_standin_b1.FnCountOfJoinedCreationsAddsUp", spec := "fnCountOfJoinedCreationsAddsUp", apart := false }
def FnCountOfJoinedCreationsAddsUpSaid : Prop := fnCountOfJoinedCreationsAddsUpRow.holds Try.pinned (OpenSpec.ofChange fnCountOfJoinedCreationsAddsUpSpec)

/-- ITS FALSE NEIGHBOUR: 'it returns false'. Refute it at one input. -/
def fnCountOfJoinedCreationsAddsUpWrong : ChangeSpec := { name := "fnCountOfJoinedCreationsAddsUp", fn := fun _ => fun
  | [d1, d2, d3] => { results := [.lit (.bool false)], args := [d1, d2, d3] }
  | _ => none }
def FnCountOfJoinedCreationsAddsUpWrongFalsely : Prop := fnCountOfJoinedCreationsAddsUpRow.holds Try.pinned (OpenSpec.ofChange fnCountOfJoinedCreationsAddsUpWrong)

/-- 'zzlaws_internal_standin_b1.FnCountCreationsCountAsSeen': WHATEVER THE INPUT: true; the input reads as it did. -/
def fnCountCreationsCountAsSeenSpec : ChangeSpec := { name := "fnCountCreationsCountAsSeen", fn := fun _ => fun
  | [d1, d2] => { results := [.lit (.bool true)], args := [d1, d2] }
  | _ => none }
def fnCountCreationsCountAsSeenRow : OpenClaim := { program := "qxb6613399a", sum := "342d1af3f56f0c942c894f813c66c5d2da64f0336407fe29fef64b74fe9a66f1", func := "example.com/helmsward/helmsward/zzlaws_internal_standin_b1.FnCountCreationsCountAsSeen", spec := "fnCountCreationsCountAsSeen", apart := false }
def FnCountCreationsCountAsSeenSaid : Prop := fnCountCreationsCountAsSeenRow.holds Try.pinned (OpenSpec.ofChange fnCountCreationsCountAsSeenSpec)

/-- ITS FALSE NEIGHBOUR: 'it returns false'. Refute it at one input. -/
def fnCountCreationsCountAsSeenWrong : ChangeSpec := { name := "fnCountCreationsCountAsSeen", fn := fun _ => fun
  | [d1, d2] => { results := [.lit (.bool false)], args := [d1, d2] }
  | _ => none }
def FnCountCreationsCountAsSeenWrongFalsely : Prop := fnCountCreationsCountAsSeenRow.holds Try.pinned (OpenSpec.ofChange fnCountCreationsCountAsSeenWrong)

/-- 'zzlaws_internal_standin_b1.FnShowReplicasRowsFollowRegistrations': WHATEVER THE INPUT: true; the input reads as it did. -/
def fnShowReplicasRowsFollowRegistrationsSpec : ChangeSpec := { name := "fnShowReplicasRowsFollowRegistrations", fn := fun _ => fun
  | [d1, d2, d3] => { results := [.lit (.bool true)], args := [d1, d2, d3] }
  | _ => none }
def fnShowReplicasRowsFollowRegistrationsRow : OpenClaim := { program := "qxb6613399a", sum := "342d1af3f56f0c942c894f813c66c5d2da64f0336407fe29fef64b74fe9a66f1", func := "example.com/helmsward/helmsward/zzlaws_internal_standin_b1.FnShowReplicasRowsFollowRegistrations", spec := "fnShowReplicasRowsFollowRegistrations", inPlace := ["(*internal/sync.Mutex).Lock", "internal/race.Disable", "sync/atomic.CompareAndSwapInt32", "internal/race.Enable", "internal/race.Acquire", "(*internal/sync.Mutex).lockSlow", "internal/sync.runtime_canSpin", "internal/sync.runtime_doSpin", "internal/sync.throw", "internal/sync.runtime_nanotime", "internal/sync.runtime_SemacquireMutex", "sync/atomic.AddInt32", "(*internal/sync.Mutex).Unlock", "internal/race.ReleaseMerge", "(*internal/sync.Mutex).unlockSlow", "internal/sync.fatal", "internal/sync.runtime_Semrelease"], apart := false }
def FnShowReplicasRowsFollowRegistrationsSaid : Prop := fnShowReplicasRowsFollowRegistrationsRow.holds Try.pinned (OpenSpec.ofChange fnShowReplicasRowsFollowRegistrationsSpec)

/-- ITS FALSE NEIGHBOUR: 'it returns false'. Refute it at one input. -/
def fnShowReplicasRowsFollowRegistrationsWrong : ChangeSpec := { name := "fnShowReplicasRowsFollowRegistrations", fn := fun _ => fun
  | [d1, d2, d3] => { results := [.lit (.bool false)], args := [d1, d2, d3] }
  | _ => none }
def FnShowReplicasRowsFollowRegistrationsWrongFalsely : Prop := fnShowReplicasRowsFollowRegistrationsRow.holds Try.pinned (OpenSpec.ofChange fnShowReplicasRowsFollowRegistrationsWrong)

end Rows
end Go.Proofs.Qxb6613399a
