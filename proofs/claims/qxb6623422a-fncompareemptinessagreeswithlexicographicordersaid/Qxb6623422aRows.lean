/-
  No cell of these rows narrows 'for every input' (looked for: loops, veiled, ifaces, maps, wideKeys, modest, calm, conditions, laid).
  DERIVED. THE GIVEN ROWS OF THIS SEAT. 1 by the template 'for every input the law returns true; each argument reads behind the call as it read before'; 0 by the template 'total and deterministic' (their statements: Qxb6623422aTotals.lean).
  GIVEN WITH THE SEED: the statements are not yours to turn. If you find one false, say at which input.
  Laid BY PROGRAM, IN A SANDBOX (cutbox-rows.mjs): the forced cells as the released guide's own fill.sh prints them over the translation fc826cf04e691d12… (all of the seat's roots in one cut). By AI agents, Wed Nov 11 2026. No macro, syntax, notation, axiom, sorry.
-/
import Derived.Test.Qxb6623422aChecked
import GoSem.Claim
import GoSem.ClaimJoined
import GoSem.ClaimMapViews
import Derived.JoinedTies
import Derived.KernelRfl
namespace Go.Proofs.Qxb6623422a
/- THE CELL 'sum', in the pinned program and in every row, IS THE sha256 OF THE DUMP (.gsa) THAT Qxb6623422aProg.lean LOADS. Nothing in Lean hashes anything: it is a label: what it is worth is what the hold of that sum in a sandbox is worth. -/
noncomputable def Try.pinned : Pinned := { name := "qxb6623422a", sum := "fc826cf04e691d120eff58977dcd21cfb20a5efab769f7ebbc0a987ac79bd806", checked := Try.checked }
namespace Rows
def none {H : Type} : Left H := { results := [], args := [] }

/-- 'zzlaws_internal_vercmp_b1.FnCompareEmptinessAgreesWithLexicographicOrder': WHATEVER THE INPUT: true; the input reads as it did. -/
def fnCompareEmptinessAgreesWithLexicographicOrderSpec : ChangeSpec := { name := "fnCompareEmptinessAgreesWithLexicographicOrder", fn := fun _ => fun
  | [d1, d2] => { results := [.lit (.bool true)], args := [d1, d2] }
  | _ => none }
def fnCompareEmptinessAgreesWithLexicographicOrderRow : OpenClaim := { program := "qxb6623422a", sum := "fc826cf04e691d120eff58977dcd21cfb20a5efab769f7ebbc0a987ac79bd806", func := "example.com/epochwise/epochwise/zzlaws_internal_vercmp_b1.FnCompareEmptinessAgreesWithLexicographicOrder", spec := "fnCompareEmptinessAgreesWithLexicographicOrder", apart := false }
def FnCompareEmptinessAgreesWithLexicographicOrderSaid : Prop := fnCompareEmptinessAgreesWithLexicographicOrderRow.holds Try.pinned (OpenSpec.ofChange fnCompareEmptinessAgreesWithLexicographicOrderSpec)

/-- ITS FALSE NEIGHBOUR: 'it returns false'. Refute it at one input. -/
def fnCompareEmptinessAgreesWithLexicographicOrderWrong : ChangeSpec := { name := "fnCompareEmptinessAgreesWithLexicographicOrder", fn := fun _ => fun
  | [d1, d2] => { results := [.lit (.bool false)], args := [d1, d2] }
  | _ => none }
def FnCompareEmptinessAgreesWithLexicographicOrderWrongFalsely : Prop := fnCompareEmptinessAgreesWithLexicographicOrderRow.holds Try.pinned (OpenSpec.ofChange fnCompareEmptinessAgreesWithLexicographicOrderWrong)

end Rows
end Go.Proofs.Qxb6623422a
