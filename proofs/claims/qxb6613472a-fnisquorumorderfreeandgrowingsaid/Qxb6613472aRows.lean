/-
  No cell of these rows narrows 'for every input' (looked for: loops, veiled, ifaces, maps, wideKeys, modest, calm, conditions, laid).
  DERIVED. THE GIVEN ROWS OF THIS SEAT. 2 by the template 'for every input the law returns true; each argument reads behind the call as it read before'; 0 by the template 'total and deterministic' (their statements: Qxb6613472aTotals.lean).
  GIVEN WITH THE SEED: the statements are not yours to turn. If you find one false, say at which input.
  Laid BY PROGRAM, IN A SANDBOX (cutbox-rows.mjs): the forced cells as the released guide's own fill.sh prints them over the translation 5fdc5fc11232f763… (all of the seat's roots in one cut). By AI agents, Wed Nov 11 2026. No macro, syntax, notation, axiom, sorry.
-/
import Derived.Test.Qxb6613472aChecked
import GoSem.Claim
import GoSem.ClaimJoined
import GoSem.ClaimMapViews
import Derived.JoinedTies
import Derived.KernelRfl
namespace Go.Proofs.Qxb6613472a
/- THE CELL 'sum', in the pinned program and in every row, IS THE sha256 OF THE DUMP (.gsa) THAT Qxb6613472aProg.lean LOADS. Nothing in Lean hashes anything: it is a label: what it is worth is what the hold of that sum in a sandbox is worth. -/
noncomputable def Try.pinned : Pinned := { name := "qxb6613472a", sum := "5fdc5fc11232f763fce0c59dbc6dd6d3e6909af125765f486cf3d59a140845c5", checked := Try.checked }
namespace Rows
def none {H : Type} : Left H := { results := [], args := [] }

/-- 'zzlaws_root_b1.FnIsQuorumEveryUnarchivedMembers': WHATEVER THE INPUT: true; the input reads as it did. -/
def fnIsQuorumEveryUnarchivedMembersSpec : ChangeSpec := { name := "fnIsQuorumEveryUnarchivedMembers", fn := fun _ => fun
  | [d1, d2, d3, d4, d5, d6] => { results := [.lit (.bool true)], args := [d1, d2, d3, d4, d5, d6] }
  | _ => none }
def fnIsQuorumEveryUnarchivedMembersRow : OpenClaim := { program := "qxb6613472a", sum := "5fdc5fc11232f763fce0c59dbc6dd6d3e6909af125765f486cf3d59a140845c5", func := "example.com/ballotkeep/ballotkeep/zzlaws_root_b1.FnIsQuorumEveryUnarchivedMembers", spec := "fnIsQuorumEveryUnarchivedMembers", unfollowed := true, recurses := true, apart := false }
def FnIsQuorumEveryUnarchivedMembersSaid : Prop := fnIsQuorumEveryUnarchivedMembersRow.holds Try.pinned (OpenSpec.ofChange fnIsQuorumEveryUnarchivedMembersSpec)

/-- ITS FALSE NEIGHBOUR: 'it returns false'. Refute it at one input. -/
def fnIsQuorumEveryUnarchivedMembersWrong : ChangeSpec := { name := "fnIsQuorumEveryUnarchivedMembers", fn := fun _ => fun
  | [d1, d2, d3, d4, d5, d6] => { results := [.lit (.bool false)], args := [d1, d2, d3, d4, d5, d6] }
  | _ => none }
def FnIsQuorumEveryUnarchivedMembersWrongFalsely : Prop := fnIsQuorumEveryUnarchivedMembersRow.holds Try.pinned (OpenSpec.ofChange fnIsQuorumEveryUnarchivedMembersWrong)

/-- 'zzlaws_root_b1.FnIsQuorumOrderFreeAndGrowing': WHATEVER THE INPUT: true; the input reads as it did. -/
def fnIsQuorumOrderFreeAndGrowingSpec : ChangeSpec := { name := "fnIsQuorumOrderFreeAndGrowing", fn := fun _ => fun
  | [d1, d2, d3, d4] => { results := [.lit (.bool true)], args := [d1, d2, d3, d4] }
  | _ => none }
def fnIsQuorumOrderFreeAndGrowingRow : OpenClaim := { program := "qxb6613472a", sum := "5fdc5fc11232f763fce0c59dbc6dd6d3e6909af125765f486cf3d59a140845c5", func := "example.com/ballotkeep/ballotkeep/zzlaws_root_b1.FnIsQuorumOrderFreeAndGrowing", spec := "fnIsQuorumOrderFreeAndGrowing", unfollowed := true, recurses := true, apart := false }
def FnIsQuorumOrderFreeAndGrowingSaid : Prop := fnIsQuorumOrderFreeAndGrowingRow.holds Try.pinned (OpenSpec.ofChange fnIsQuorumOrderFreeAndGrowingSpec)

/-- ITS FALSE NEIGHBOUR: 'it returns false'. Refute it at one input. -/
def fnIsQuorumOrderFreeAndGrowingWrong : ChangeSpec := { name := "fnIsQuorumOrderFreeAndGrowing", fn := fun _ => fun
  | [d1, d2, d3, d4] => { results := [.lit (.bool false)], args := [d1, d2, d3, d4] }
  | _ => none }
def FnIsQuorumOrderFreeAndGrowingWrongFalsely : Prop := fnIsQuorumOrderFreeAndGrowingRow.holds Try.pinned (OpenSpec.ofChange fnIsQuorumOrderFreeAndGrowingWrong)

end Rows
end Go.Proofs.Qxb6613472a
