/-
  No cell of these rows narrows 'for every input' (looked for: loops, veiled, ifaces, maps, wideKeys, modest, calm, conditions, laid).
  DERIVED. THE GIVEN ROWS OF THIS SEAT. 2 by the template 'for every input the law returns true; each argument reads behind the call as it read before'; 0 by the template 'total and deterministic' (their statements: Qxb6627530aTotals.lean).
  GIVEN WITH THE SEED: the statements are not yours to turn. If you find one false, say at which input.
  Laid BY PROGRAM, IN A SANDBOX (cutbox-rows.mjs): the forced cells as the released guide's own fill.sh prints them over the translation 10b89c123c432145… (all of the seat's roots in one cut). By AI agents, Wed Nov 11 2026. No macro, syntax, notation, axiom, sorry.
-/
import Derived.Test.Qxb6627530aChecked
import GoSem.Claim
import GoSem.ClaimJoined
import GoSem.ClaimMapViews
import Derived.JoinedTies
import Derived.KernelRfl
namespace Go.Proofs.Qxb6627530a
/- THE CELL 'sum', in the pinned program and in every row, IS THE sha256 OF THE DUMP (.gsa) THAT Qxb6627530aProg.lean LOADS. Nothing in Lean hashes anything: it is a label: what it is worth is what the hold of that sum in a sandbox is worth. -/
noncomputable def Try.pinned : Pinned := { name := "qxb6627530a", sum := "10b89c123c43214553cb3eaa72be6ca86e52d9b8ba44a6d8f4ed837369391785", checked := Try.checked }
namespace Rows
def none {H : Type} : Left H := { results := [], args := [] }

/-- 'zzlaws_internal_resp_b1.FnBulkSizeTenfold': WHATEVER THE INPUT: true; the input reads as it did. -/
def fnBulkSizeTenfoldSpec : ChangeSpec := { name := "fnBulkSizeTenfold", fn := fun _ => fun
  | [d] => { results := [.lit (.bool true)], args := [d] }
  | _ => none }
def fnBulkSizeTenfoldRow : OpenClaim := { program := "qxb6627530a", sum := "10b89c123c43214553cb3eaa72be6ca86e52d9b8ba44a6d8f4ed837369391785", func := "example.com/wakeline/wakeline/zzlaws_internal_resp_b1.FnBulkSizeTenfold", spec := "fnBulkSizeTenfold", apart := false }
def FnBulkSizeTenfoldSaid : Prop := fnBulkSizeTenfoldRow.holds Try.pinned (OpenSpec.ofChange fnBulkSizeTenfoldSpec)

/-- ITS FALSE NEIGHBOUR: 'it returns false'. Refute it at one input. -/
def fnBulkSizeTenfoldWrong : ChangeSpec := { name := "fnBulkSizeTenfold", fn := fun _ => fun
  | [d] => { results := [.lit (.bool false)], args := [d] }
  | _ => none }
def FnBulkSizeTenfoldWrongFalsely : Prop := fnBulkSizeTenfoldRow.holds Try.pinned (OpenSpec.ofChange fnBulkSizeTenfoldWrong)

/-- 'zzlaws_internal_resp_b1.FnBulkSizeSuccessor': WHATEVER THE INPUT: true; the input reads as it did. -/
def fnBulkSizeSuccessorSpec : ChangeSpec := { name := "fnBulkSizeSuccessor", fn := fun _ => fun
  | [d] => { results := [.lit (.bool true)], args := [d] }
  | _ => none }
def fnBulkSizeSuccessorRow : OpenClaim := { program := "qxb6627530a", sum := "10b89c123c43214553cb3eaa72be6ca86e52d9b8ba44a6d8f4ed837369391785", func := "example.com/wakeline/wakeline/zzlaws_internal_resp_b1.FnBulkSizeSuccessor", spec := "fnBulkSizeSuccessor", apart := false }
def FnBulkSizeSuccessorSaid : Prop := fnBulkSizeSuccessorRow.holds Try.pinned (OpenSpec.ofChange fnBulkSizeSuccessorSpec)

/-- ITS FALSE NEIGHBOUR: 'it returns false'. Refute it at one input. -/
def fnBulkSizeSuccessorWrong : ChangeSpec := { name := "fnBulkSizeSuccessor", fn := fun _ => fun
  | [d] => { results := [.lit (.bool false)], args := [d] }
  | _ => none }
def FnBulkSizeSuccessorWrongFalsely : Prop := fnBulkSizeSuccessorRow.holds Try.pinned (OpenSpec.ofChange fnBulkSizeSuccessorWrong)

end Rows
end Go.Proofs.Qxb6627530a
