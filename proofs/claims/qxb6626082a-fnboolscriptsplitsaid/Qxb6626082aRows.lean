/-
  No cell of these rows narrows 'for every input' (looked for: loops, veiled, ifaces, maps, wideKeys, modest, calm, conditions, laid).
  DERIVED. THE GIVEN ROWS OF THIS SEAT. 2 by the template 'for every input the law returns true; each argument reads behind the call as it read before'; 0 by the template 'total and deterministic' (their statements: Qxb6626082aTotals.lean).
  GIVEN WITH THE SEED: the statements are not yours to turn. If you find one false, say at which input.
  Laid BY PROGRAM, IN A SANDBOX (cutbox-rows.mjs): the forced cells as the released guide's own fill.sh prints them over the translation 5476b6cf8c963e14… (all of the seat's roots in one cut). By AI agents, Wed Nov 11 2026. No macro, syntax, notation, axiom, sorry.
-/
import Derived.Test.Qxb6626082aChecked
import GoSem.Claim
import GoSem.ClaimJoined
import GoSem.ClaimMapViews
import Derived.JoinedTies
import Derived.KernelRfl
namespace Go.Proofs.Qxb6626082a
/- THE CELL 'sum', in the pinned program and in every row, IS THE sha256 OF THE DUMP (.gsa) THAT Qxb6626082aProg.lean LOADS. Nothing in Lean hashes anything: it is a label: what it is worth is what the hold of that sum in a sandbox is worth. -/
noncomputable def Try.pinned : Pinned := { name := "qxb6626082a", sum := "5476b6cf8c963e147db0c1f4cff401bf25f38ce0932a2a583c83908f27615c2f", checked := Try.checked }
namespace Rows
def none {H : Type} : Left H := { results := [], args := [] }

/-- 'zzlaws_internal_wire_b1.FnBoolNegationPair': WHATEVER THE INPUT: true; the input reads as it did. -/
def fnBoolNegationPairSpec : ChangeSpec := { name := "fnBoolNegationPair", fn := fun _ => fun
  | [d1, d2, d3] => { results := [.lit (.bool true)], args := [d1, d2, d3] }
  | _ => none }
def fnBoolNegationPairRow : OpenClaim := { program := "qxb6626082a", sum := "5476b6cf8c963e147db0c1f4cff401bf25f38ce0932a2a583c83908f27615c2f", func := "example.com/batch-to-broker/batch-to-broker/zzlaws_internal_wire_b1.FnBoolNegationPair", spec := "fnBoolNegationPair", apart := false }
def FnBoolNegationPairSaid : Prop := fnBoolNegationPairRow.holds Try.pinned (OpenSpec.ofChange fnBoolNegationPairSpec)

/-- ITS FALSE NEIGHBOUR: 'it returns false'. Refute it at one input. -/
def fnBoolNegationPairWrong : ChangeSpec := { name := "fnBoolNegationPair", fn := fun _ => fun
  | [d1, d2, d3] => { results := [.lit (.bool false)], args := [d1, d2, d3] }
  | _ => none }
def FnBoolNegationPairWrongFalsely : Prop := fnBoolNegationPairRow.holds Try.pinned (OpenSpec.ofChange fnBoolNegationPairWrong)

/-- 'zzlaws_internal_wire_b1.FnBoolScriptSplit': WHATEVER THE INPUT: true; the input reads as it did. -/
def fnBoolScriptSplitSpec : ChangeSpec := { name := "fnBoolScriptSplit", fn := fun _ => fun
  | [d1, d2, d3, d4] => { results := [.lit (.bool true)], args := [d1, d2, d3, d4] }
  | _ => none }
def fnBoolScriptSplitRow : OpenClaim := { program := "qxb6626082a", sum := "5476b6cf8c963e147db0c1f4cff401bf25f38ce0932a2a583c83908f27615c2f", func := "example.com/batch-to-broker/batch-to-broker/zzlaws_internal_wire_b1.FnBoolScriptSplit", spec := "fnBoolScriptSplit", apart := false }
def FnBoolScriptSplitSaid : Prop := fnBoolScriptSplitRow.holds Try.pinned (OpenSpec.ofChange fnBoolScriptSplitSpec)

/-- ITS FALSE NEIGHBOUR: 'it returns false'. Refute it at one input. -/
def fnBoolScriptSplitWrong : ChangeSpec := { name := "fnBoolScriptSplit", fn := fun _ => fun
  | [d1, d2, d3, d4] => { results := [.lit (.bool false)], args := [d1, d2, d3, d4] }
  | _ => none }
def FnBoolScriptSplitWrongFalsely : Prop := fnBoolScriptSplitRow.holds Try.pinned (OpenSpec.ofChange fnBoolScriptSplitWrong)

end Rows
end Go.Proofs.Qxb6626082a
