/-
  No cell of these rows narrows 'for every input' (looked for: loops, veiled, ifaces, maps, wideKeys, modest, calm, conditions, laid).
  DERIVED. THE GIVEN ROWS OF THIS SEAT. 1 by the template 'for every input the law returns true; each argument reads behind the call as it read before'; 0 by the template 'total and deterministic' (their statements: Qxb6623368aTotals.lean).
  GIVEN WITH THE SEED: the statements are not yours to turn. If you find one false, say at which input.
  Laid BY PROGRAM, IN A SANDBOX (cutbox-rows.mjs): the forced cells as the released guide's own fill.sh prints them over the translation 22980451c74b3692… (all of the seat's roots in one cut). By AI agents, Wed Nov 11 2026. No macro, syntax, notation, axiom, sorry.
-/
import Derived.Test.Qxb6623368aChecked
import GoSem.Claim
import GoSem.ClaimJoined
import GoSem.ClaimMapViews
import Derived.JoinedTies
import Derived.KernelRfl
namespace Go.Proofs.Qxb6623368a
/- THE CELL 'sum', in the pinned program and in every row, IS THE sha256 OF THE DUMP (.gsa) THAT Qxb6623368aProg.lean LOADS. Nothing in Lean hashes anything: it is a label: what it is worth is what the hold of that sum in a sandbox is worth. -/
noncomputable def Try.pinned : Pinned := { name := "qxb6623368a", sum := "22980451c74b369287293f15ce65652041a17484028652bbe3431d5cc85eab2a", checked := Try.checked }
namespace Rows
def none {H : Type} : Left H := { results := [], args := [] }

/-- 'zzlaws_root_b1.FnEquatableSymmetricReflexive': WHATEVER THE INPUT: true; the input reads as it did. -/
def fnEquatableSymmetricReflexiveSpec : ChangeSpec := { name := "fnEquatableSymmetricReflexive", fn := fun _ => fun
  | [d1, d2, d3, d4] => { results := [.lit (.bool true)], args := [d1, d2, d3, d4] }
  | _ => none }
def fnEquatableSymmetricReflexiveRow : OpenClaim := { program := "qxb6623368a", sum := "22980451c74b369287293f15ce65652041a17484028652bbe3431d5cc85eab2a", func := "example.com/sanad/sanad/zzlaws_root_b1.FnEquatableSymmetricReflexive", spec := "fnEquatableSymmetricReflexive", recurses := true, apart := false }
def FnEquatableSymmetricReflexiveSaid : Prop := fnEquatableSymmetricReflexiveRow.holds Try.pinned (OpenSpec.ofChange fnEquatableSymmetricReflexiveSpec)

/-- ITS FALSE NEIGHBOUR: 'it returns false'. Refute it at one input. -/
def fnEquatableSymmetricReflexiveWrong : ChangeSpec := { name := "fnEquatableSymmetricReflexive", fn := fun _ => fun
  | [d1, d2, d3, d4] => { results := [.lit (.bool false)], args := [d1, d2, d3, d4] }
  | _ => none }
def FnEquatableSymmetricReflexiveWrongFalsely : Prop := fnEquatableSymmetricReflexiveRow.holds Try.pinned (OpenSpec.ofChange fnEquatableSymmetricReflexiveWrong)

end Rows
end Go.Proofs.Qxb6623368a
