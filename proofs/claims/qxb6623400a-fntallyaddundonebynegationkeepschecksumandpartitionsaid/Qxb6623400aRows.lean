/-
  No cell of these rows narrows 'for every input' (looked for: loops, veiled, ifaces, maps, wideKeys, modest, calm, conditions, laid).
  DERIVED. THE GIVEN ROWS OF THIS SEAT. 2 by the template 'for every input the law returns true; each argument reads behind the call as it read before'; 0 by the template 'total and deterministic' (their statements: Qxb6623400aTotals.lean).
  GIVEN WITH THE SEED: the statements are not yours to turn. If you find one false, say at which input.
  Laid BY PROGRAM, IN A SANDBOX (cutbox-rows.mjs): the forced cells as the released guide's own fill.sh prints them over the translation e2cca461aaf08022… (all of the seat's roots in one cut). By AI agents, Wed Nov 11 2026. No macro, syntax, notation, axiom, sorry.
-/
import Derived.Test.Qxb6623400aChecked
import GoSem.Claim
import GoSem.ClaimJoined
import GoSem.ClaimMapViews
import Derived.JoinedTies
import Derived.KernelRfl
namespace Go.Proofs.Qxb6623400a
/- THE CELL 'sum', in the pinned program and in every row, IS THE sha256 OF THE DUMP (.gsa) THAT Qxb6623400aProg.lean LOADS. Nothing in Lean hashes anything: it is a label: what it is worth is what the hold of that sum in a sandbox is worth. -/
noncomputable def Try.pinned : Pinned := { name := "qxb6623400a", sum := "e2cca461aaf080222dfb316db6165416db0ff159862903fbc7911e47ca38778d", checked := Try.checked }
namespace Rows
def none {H : Type} : Left H := { results := [], args := [] }

/-- 'zzlaws_internal_schedule_b1.FnTallyAddCommutesWithZeroIdentity': WHATEVER THE INPUT: true; the input reads as it did. -/
def fnTallyAddCommutesWithZeroIdentitySpec : ChangeSpec := { name := "fnTallyAddCommutesWithZeroIdentity", fn := fun _ => fun
  | [d1, d2, d3, d4, d5, d6, d7, d8, d9, d10, d11, d12] => { results := [.lit (.bool true)], args := [d1, d2, d3, d4, d5, d6, d7, d8, d9, d10, d11, d12] }
  | _ => none }
def fnTallyAddCommutesWithZeroIdentityRow : OpenClaim := { program := "qxb6623400a", sum := "e2cca461aaf080222dfb316db6165416db0ff159862903fbc7911e47ca38778d", func := "example.com/pivotwatch/pivotwatch/zzlaws_internal_schedule_b1.FnTallyAddCommutesWithZeroIdentity", spec := "fnTallyAddCommutesWithZeroIdentity", apart := false }
def FnTallyAddCommutesWithZeroIdentitySaid : Prop := fnTallyAddCommutesWithZeroIdentityRow.holds Try.pinned (OpenSpec.ofChange fnTallyAddCommutesWithZeroIdentitySpec)

/-- ITS FALSE NEIGHBOUR: 'it returns false'. Refute it at one input. -/
def fnTallyAddCommutesWithZeroIdentityWrong : ChangeSpec := { name := "fnTallyAddCommutesWithZeroIdentity", fn := fun _ => fun
  | [d1, d2, d3, d4, d5, d6, d7, d8, d9, d10, d11, d12] => { results := [.lit (.bool false)], args := [d1, d2, d3, d4, d5, d6, d7, d8, d9, d10, d11, d12] }
  | _ => none }
def FnTallyAddCommutesWithZeroIdentityWrongFalsely : Prop := fnTallyAddCommutesWithZeroIdentityRow.holds Try.pinned (OpenSpec.ofChange fnTallyAddCommutesWithZeroIdentityWrong)

/-- 'zzlaws_internal_schedule_b1.FnTallyAddUndoneByNegationKeepsChecksumAndPartition': WHATEVER THE INPUT: true; the input reads as it did. -/
def fnTallyAddUndoneByNegationKeepsChecksumAndPartitionSpec : ChangeSpec := { name := "fnTallyAddUndoneByNegationKeepsChecksumAndPartition", fn := fun _ => fun
  | [d1, d2, d3, d4, d5, d6, d7, d8, d9, d10, d11, d12] => { results := [.lit (.bool true)], args := [d1, d2, d3, d4, d5, d6, d7, d8, d9, d10, d11, d12] }
  | _ => none }
def fnTallyAddUndoneByNegationKeepsChecksumAndPartitionRow : OpenClaim := { program := "qxb6623400a", sum := "e2cca461aaf080222dfb316db6165416db0ff159862903fbc7911e47ca38778d", func := "example.com/pivotwatch/pivotwatch/zzlaws_internal_schedule_b1.FnTallyAddUndoneByNegationKeepsChecksumAndPartition", spec := "fnTallyAddUndoneByNegationKeepsChecksumAndPartition", apart := false }
def FnTallyAddUndoneByNegationKeepsChecksumAndPartitionSaid : Prop := fnTallyAddUndoneByNegationKeepsChecksumAndPartitionRow.holds Try.pinned (OpenSpec.ofChange fnTallyAddUndoneByNegationKeepsChecksumAndPartitionSpec)

/-- ITS FALSE NEIGHBOUR: 'it returns false'. Refute it at one input. -/
def fnTallyAddUndoneByNegationKeepsChecksumAndPartitionWrong : ChangeSpec := { name := "fnTallyAddUndoneByNegationKeepsChecksumAndPartition", fn := fun _ => fun
  | [d1, d2, d3, d4, d5, d6, d7, d8, d9, d10, d11, d12] => { results := [.lit (.bool false)], args := [d1, d2, d3, d4, d5, d6, d7, d8, d9, d10, d11, d12] }
  | _ => none }
def FnTallyAddUndoneByNegationKeepsChecksumAndPartitionWrongFalsely : Prop := fnTallyAddUndoneByNegationKeepsChecksumAndPartitionRow.holds Try.pinned (OpenSpec.ofChange fnTallyAddUndoneByNegationKeepsChecksumAndPartitionWrong)

end Rows
end Go.Proofs.Qxb6623400a
