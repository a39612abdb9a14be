/-
  No cell of these rows narrows 'for every input' (looked for: loops, veiled, ifaces, maps, wideKeys, modest, calm, conditions, laid).
  DERIVED. THE GIVEN ROWS OF THIS SEAT. 2 by the template 'for every input the law returns true; each argument reads behind the call as it read before'; 0 by the template 'total and deterministic' (their statements: Qxb6628192aFmtTotals.lean).
  GIVEN WITH THE SEED: the statements are not yours to turn. If you find one false, say at which input.
  Laid BY PROGRAM, IN A SANDBOX (cutbox-rows.mjs): the forced cells as the released guide's own fill.sh prints them over the translation 1e234ea875b29bc2… (all of the seat's roots in one cut). By AI agents, Wed Nov 11 2026. No macro, syntax, notation, axiom, sorry.
-/
import Derived.Test.Qxb6628192aFmtChecked
import GoSem.Claim
import GoSem.ClaimJoined
import GoSem.ClaimMapViews
import Derived.JoinedTies
import Derived.KernelRfl
namespace Go.Proofs.Qxb6628192aFmt
/- THE CELL 'sum', in the pinned program and in every row, IS THE sha256 OF THE DUMP (.gsa) THAT Qxb6628192aFmtProg.lean LOADS. Nothing in Lean hashes anything: it is a label: what it is worth is what the hold of that sum in a sandbox is worth. -/
noncomputable def Tryf.pinned : Pinned := { name := "qxb6628192afmt", sum := "1e234ea875b29bc2b5c97d941ef12cb7d0c30684815ca392a34a5a0d1aa834fa", checked := Tryf.checked }
namespace Rows
def none {H : Type} : Left H := { results := [], args := [] }

/-- 'zzlaws_root_b1.FnStringParsesBackToItsType': WHATEVER THE INPUT: true; the input reads as it did. -/
def fnStringParsesBackToItsTypeSpec : ChangeSpec := { name := "fnStringParsesBackToItsType", fn := fun _ => fun
  | [d] => { results := [.lit (.bool true)], args := [d] }
  | _ => none }
def fnStringParsesBackToItsTypeRow : OpenClaim := { program := "qxb6628192afmt", sum := "1e234ea875b29bc2b5c97d941ef12cb7d0c30684815ca392a34a5a0d1aa834fa", func := "example.com/pentaroute/pentaroute/zzlaws_root_b1.FnStringParsesBackToItsType", spec := "fnStringParsesBackToItsType", stops := ["fmt.Sprintf"], inPlace := ["fmt.Sprintf"], apart := false }
/-- NO THEOREM (fmt's text is open here; it may be false): for the released tool's asking of the row's closed facts alone. THE STATEMENT IS 'FnStringParsesBackToItsTypeToldSaid' (Qxb6628192aFmtCards.lean). -/
def FnStringParsesBackToItsTypeFormAsk : Prop := fnStringParsesBackToItsTypeRow.holds Tryf.pinned (OpenSpec.ofChange fnStringParsesBackToItsTypeSpec)

/-- ITS FALSE NEIGHBOUR: 'it returns false'. Refute it at one input. -/
def fnStringParsesBackToItsTypeWrong : ChangeSpec := { name := "fnStringParsesBackToItsType", fn := fun _ => fun
  | [d] => { results := [.lit (.bool false)], args := [d] }
  | _ => none }
def FnStringParsesBackToItsTypeWrongFormAsk : Prop := fnStringParsesBackToItsTypeRow.holds Tryf.pinned (OpenSpec.ofChange fnStringParsesBackToItsTypeWrong)

/-- 'zzlaws_root_b1.FnStringTellsTypesApart': WHATEVER THE INPUT: true; the input reads as it did. -/
def fnStringTellsTypesApartSpec : ChangeSpec := { name := "fnStringTellsTypesApart", fn := fun _ => fun
  | [d1, d2] => { results := [.lit (.bool true)], args := [d1, d2] }
  | _ => none }
def fnStringTellsTypesApartRow : OpenClaim := { program := "qxb6628192afmt", sum := "1e234ea875b29bc2b5c97d941ef12cb7d0c30684815ca392a34a5a0d1aa834fa", func := "example.com/pentaroute/pentaroute/zzlaws_root_b1.FnStringTellsTypesApart", spec := "fnStringTellsTypesApart", stops := ["fmt.Sprintf"], inPlace := ["fmt.Sprintf"], apart := false }
/-- NO THEOREM (fmt's text is open here; it may be false): for the released tool's asking of the row's closed facts alone. THE STATEMENT IS 'FnStringTellsTypesApartToldSaid' (Qxb6628192aFmtCards.lean). -/
def FnStringTellsTypesApartFormAsk : Prop := fnStringTellsTypesApartRow.holds Tryf.pinned (OpenSpec.ofChange fnStringTellsTypesApartSpec)

/-- ITS FALSE NEIGHBOUR: 'it returns false'. Refute it at one input. -/
def fnStringTellsTypesApartWrong : ChangeSpec := { name := "fnStringTellsTypesApart", fn := fun _ => fun
  | [d1, d2] => { results := [.lit (.bool false)], args := [d1, d2] }
  | _ => none }
def FnStringTellsTypesApartWrongFormAsk : Prop := fnStringTellsTypesApartRow.holds Tryf.pinned (OpenSpec.ofChange fnStringTellsTypesApartWrong)

end Rows
end Go.Proofs.Qxb6628192aFmt
