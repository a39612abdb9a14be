/-
  DERIVED. GIVEN WITH THE SEED: THE CARDS: each row of Qxb6628192aFmtRows.lean that lists a variable, with what it lists TIED to the program's text (the seventh form; the later family's looks); each row that meets fmt, with fmt's text TOLD by the authors' own Lean function (tested against real Go, not proved from fmt's source: count such statements apart). THE CARD IS WHAT COUNTS. Prove the row's statement (the work); the ties are given (Qxb6628192aFmtTie.lean); close each card by the builder's one call (the guide's Derived/Test/ToyasCard.lean, 'card_holds'). Laid BY PROGRAM, IN A SANDBOX (cutbox-door.mjs). By AI agents, Wed Nov 11 2026. No macro, syntax, notation, axiom, sorry.
-/
import Derived.Test.Qxb6628192aFmtRows
import GoSem.ClaimSeven
namespace Go.Proofs.Qxb6628192aFmt
namespace Rows

/-- THE TOLD CARD OF 'zzlaws_root_b1.FnStringParsesBackToItsType'. -/
def fnStringParsesBackToItsTypeCard : Claim7 := { stood := { row := fnStringParsesBackToItsTypeRow, standIns := [], harness := (true, "26be5f3701d5ef5b8ddf3e61b482034e4fb13bd15d0ced86340be923f90a13ed"), looks := false }, told := true, goes := false }
def FnStringParsesBackToItsTypeToldSaid : Prop := Claim7.holds Tryf.pinned (.plain (OpenSpec.ofChange fnStringParsesBackToItsTypeSpec)) fnStringParsesBackToItsTypeCard
/-- ITS FALSE NEIGHBOUR. Refute it at one input. -/
def FnStringParsesBackToItsTypeToldWrongFalsely : Prop := Claim7.holds Tryf.pinned (.plain (OpenSpec.ofChange fnStringParsesBackToItsTypeWrong)) fnStringParsesBackToItsTypeCard

/-- THE TOLD CARD OF 'zzlaws_root_b1.FnStringTellsTypesApart'. -/
def fnStringTellsTypesApartCard : Claim7 := { stood := { row := fnStringTellsTypesApartRow, standIns := [], harness := (true, "26be5f3701d5ef5b8ddf3e61b482034e4fb13bd15d0ced86340be923f90a13ed"), looks := false }, told := true, goes := false }
def FnStringTellsTypesApartToldSaid : Prop := Claim7.holds Tryf.pinned (.plain (OpenSpec.ofChange fnStringTellsTypesApartSpec)) fnStringTellsTypesApartCard
/-- ITS FALSE NEIGHBOUR. Refute it at one input. -/
def FnStringTellsTypesApartToldWrongFalsely : Prop := Claim7.holds Tryf.pinned (.plain (OpenSpec.ofChange fnStringTellsTypesApartWrong)) fnStringTellsTypesApartCard
end Rows
end Go.Proofs.Qxb6628192aFmt
