/-
  No cell of these rows narrows 'for every input' (looked for: loops, veiled, ifaces, maps, wideKeys, modest, calm, conditions, laid).
  DERIVED. THE GIVEN ROWS OF THIS SEAT. 2 by the template 'for every input the law returns true; each argument reads behind the call as it read before'; 0 by the template 'total and deterministic' (their statements: Qxb6628238aTotals.lean).
  GIVEN WITH THE SEED: the statements are not yours to turn. If you find one false, say at which input.
  Laid BY PROGRAM, IN A SANDBOX (cutbox-rows.mjs): the forced cells as the released guide's own fill.sh prints them over the translation 91673d3cc61bc895… (all of the seat's roots in one cut). By AI agents, Wed Nov 11 2026. No macro, syntax, notation, axiom, sorry.
-/
import Derived.Test.Qxb6628238aChecked
import GoSem.Claim
import GoSem.ClaimJoined
import GoSem.ClaimMapViews
import Derived.JoinedTies
import Derived.KernelRfl
namespace Go.Proofs.Qxb6628238a
/- THE CELL 'sum', in the pinned program and in every row, IS THE sha256 OF THE DUMP (.gsa) THAT Qxb6628238aProg.lean LOADS. Nothing in Lean hashes anything: it is a label: what it is worth is what the hold of that sum in a sandbox is worth. -/
noncomputable def Try.pinned : Pinned := { name := "qxb6628238a", sum := "91673d3cc61bc8957c655c57a41af82a74a54c5b4fcd3e5bc3b2b70f5daefbb7", checked := Try.checked }
namespace Rows
def none {H : Type} : Left H := { results := [], args := [] }

/-- 'zzlaws_aptx_b1.FnAddPayloadsAreSizeChunksOfHeldThenData': WHATEVER THE INPUT: true; the input reads as it did. -/
def fnAddPayloadsAreSizeChunksOfHeldThenDataSpec : ChangeSpec := { name := "fnAddPayloadsAreSizeChunksOfHeldThenData", fn := fun _ => fun
  | [d1, d2, d3, d4, d5] => { results := [.lit (.bool true)], args := [d1, d2, d3, d4, d5] }
  | _ => none }
def fnAddPayloadsAreSizeChunksOfHeldThenDataRow : OpenClaim := { program := "qxb6628238a", sum := "91673d3cc61bc8957c655c57a41af82a74a54c5b4fcd3e5bc3b2b70f5daefbb7", func := "example.com/packetune/packetune/zzlaws_aptx_b1.FnAddPayloadsAreSizeChunksOfHeldThenData", spec := "fnAddPayloadsAreSizeChunksOfHeldThenData", apart := false }
def FnAddPayloadsAreSizeChunksOfHeldThenDataSaid : Prop := fnAddPayloadsAreSizeChunksOfHeldThenDataRow.holds Try.pinned (OpenSpec.ofChange fnAddPayloadsAreSizeChunksOfHeldThenDataSpec)

/-- ITS FALSE NEIGHBOUR: 'it returns false'. Refute it at one input. -/
def fnAddPayloadsAreSizeChunksOfHeldThenDataWrong : ChangeSpec := { name := "fnAddPayloadsAreSizeChunksOfHeldThenData", fn := fun _ => fun
  | [d1, d2, d3, d4, d5] => { results := [.lit (.bool false)], args := [d1, d2, d3, d4, d5] }
  | _ => none }
def FnAddPayloadsAreSizeChunksOfHeldThenDataWrongFalsely : Prop := fnAddPayloadsAreSizeChunksOfHeldThenDataRow.holds Try.pinned (OpenSpec.ofChange fnAddPayloadsAreSizeChunksOfHeldThenDataWrong)

/-- 'zzlaws_aptx_b1.FnAddSplitAtAnyCutAgreesWithOneCall': WHATEVER THE INPUT: true; the input reads as it did. -/
def fnAddSplitAtAnyCutAgreesWithOneCallSpec : ChangeSpec := { name := "fnAddSplitAtAnyCutAgreesWithOneCall", fn := fun _ => fun
  | [d1, d2, d3, d4, d5, d6] => { results := [.lit (.bool true)], args := [d1, d2, d3, d4, d5, d6] }
  | _ => none }
def fnAddSplitAtAnyCutAgreesWithOneCallRow : OpenClaim := { program := "qxb6628238a", sum := "91673d3cc61bc8957c655c57a41af82a74a54c5b4fcd3e5bc3b2b70f5daefbb7", func := "example.com/packetune/packetune/zzlaws_aptx_b1.FnAddSplitAtAnyCutAgreesWithOneCall", spec := "fnAddSplitAtAnyCutAgreesWithOneCall", apart := false }
def FnAddSplitAtAnyCutAgreesWithOneCallSaid : Prop := fnAddSplitAtAnyCutAgreesWithOneCallRow.holds Try.pinned (OpenSpec.ofChange fnAddSplitAtAnyCutAgreesWithOneCallSpec)

/-- ITS FALSE NEIGHBOUR: 'it returns false'. Refute it at one input. -/
def fnAddSplitAtAnyCutAgreesWithOneCallWrong : ChangeSpec := { name := "fnAddSplitAtAnyCutAgreesWithOneCall", fn := fun _ => fun
  | [d1, d2, d3, d4, d5, d6] => { results := [.lit (.bool false)], args := [d1, d2, d3, d4, d5, d6] }
  | _ => none }
def FnAddSplitAtAnyCutAgreesWithOneCallWrongFalsely : Prop := fnAddSplitAtAnyCutAgreesWithOneCallRow.holds Try.pinned (OpenSpec.ofChange fnAddSplitAtAnyCutAgreesWithOneCallWrong)

end Rows
end Go.Proofs.Qxb6628238a
