/-
  No cell of these rows narrows 'for every input' (looked for: loops, veiled, ifaces, maps, wideKeys, modest, calm, conditions, laid).
  DERIVED. THE GIVEN ROWS OF THIS SEAT. 1 by the template 'for every input the law returns true; each argument reads behind the call as it read before'; 0 by the template 'total and deterministic' (their statements: Qxb6623328aTotals.lean).
  GIVEN WITH THE SEED: the statements are not yours to turn. If you find one false, say at which input.
  Laid BY PROGRAM, IN A SANDBOX (cutbox-rows.mjs): the forced cells as the released guide's own fill.sh prints them over the translation 9bce309c4a3adab7… (all of the seat's roots in one cut). By AI agents, Wed Nov 11 2026. No macro, syntax, notation, axiom, sorry.
-/
import Derived.Test.Qxb6623328aChecked
import GoSem.Claim
import GoSem.ClaimJoined
import GoSem.ClaimMapViews
import Derived.JoinedTies
import Derived.KernelRfl
namespace Go.Proofs.Qxb6623328a
/- THE CELL 'sum', in the pinned program and in every row, IS THE sha256 OF THE DUMP (.gsa) THAT Qxb6623328aProg.lean LOADS. Nothing in Lean hashes anything: it is a label: what it is worth is what the hold of that sum in a sandbox is worth. -/
noncomputable def Try.pinned : Pinned := { name := "qxb6623328a", sum := "9bce309c4a3adab7f2b2c6d647031b1e30c4a4c04d7cb5c18ea5cc78739a352e", checked := Try.checked }
namespace Rows
def none {H : Type} : Left H := { results := [], args := [] }

/-- 'zzlaws_internal_yamltext_b1.FnAppendCommentsLineWise': WHATEVER THE INPUT: true; the input reads as it did. -/
def fnAppendCommentsLineWiseSpec : ChangeSpec := { name := "fnAppendCommentsLineWise", fn := fun _ => fun
  | [d1, d2, d3, d4] => { results := [.lit (.bool true)], args := [d1, d2, d3, d4] }
  | _ => none }
def fnAppendCommentsLineWiseRow : OpenClaim := { program := "qxb6623328a", sum := "9bce309c4a3adab7f2b2c6d647031b1e30c4a4c04d7cb5c18ea5cc78739a352e", func := "example.com/tollgate/tollgate/zzlaws_internal_yamltext_b1.FnAppendCommentsLineWise", spec := "fnAppendCommentsLineWise", apart := false }
def FnAppendCommentsLineWiseSaid : Prop := fnAppendCommentsLineWiseRow.holds Try.pinned (OpenSpec.ofChange fnAppendCommentsLineWiseSpec)

/-- ITS FALSE NEIGHBOUR: 'it returns false'. Refute it at one input. -/
def fnAppendCommentsLineWiseWrong : ChangeSpec := { name := "fnAppendCommentsLineWise", fn := fun _ => fun
  | [d1, d2, d3, d4] => { results := [.lit (.bool false)], args := [d1, d2, d3, d4] }
  | _ => none }
def FnAppendCommentsLineWiseWrongFalsely : Prop := fnAppendCommentsLineWiseRow.holds Try.pinned (OpenSpec.ofChange fnAppendCommentsLineWiseWrong)

end Rows
end Go.Proofs.Qxb6623328a
