/-
  DERIVED. GIVEN WITH THE SEED: THE CARDS: each row of YbulkcsgsFmtRows.lean that lists a variable, with what it lists TIED to the program's text (the seventh form; the later family's looks); each row that meets fmt, with fmt's text TOLD by the authors' own Lean function (tested against real Go, not proved from fmt's source: count such statements apart). THE CARD IS WHAT COUNTS. Prove the row's statement (the work); the ties are given (YbulkcsgsFmtTie.lean); close each card by the builder's one call (the guide's Derived/Test/ToyasCard.lean, 'card_holds'). Laid BY PROGRAM, IN A SANDBOX (cutbox-door.mjs). By AI agents, Wed Nov 11 2026. No macro, syntax, notation, axiom, sorry.
-/
import Derived.Test.YbulkcsgsFmtRows
import GoSem.ClaimSeven
namespace Go.Proofs.YbulkcsgsFmt
namespace Rows

/-- THE TOLD CARD OF 'roamkey.LawS4698CBuilds'. -/
def lawS4698CBuildsCard : Claim7 := { stood := { row := lawS4698CBuildsRow, standIns := [], harness := (true, "2bc259b6e211ea9d52439f54817d16e3f1dbdaebfc8fbd9d41cde00db336f930"), looks := true }, told := true, goes := false }
def LawS4698CBuildsToldSaid : Prop := Claim7.holds Ybaf.pinned (.plain (OpenSpec.ofChange lawS4698CBuildsSpec)) lawS4698CBuildsCard
/-- ITS FALSE NEIGHBOUR. Refute it at one input. -/
def LawS4698CBuildsToldWrongFalsely : Prop := Claim7.holds Ybaf.pinned (.plain (OpenSpec.ofChange lawS4698CBuildsWrong)) lawS4698CBuildsCard

/-- THE TOLD CARD OF 'roamkey.LawS4698CRefusesNil'. -/
def lawS4698CRefusesNilCard : Claim7 := { stood := { row := lawS4698CRefusesNilRow, standIns := [], harness := (true, "2bc259b6e211ea9d52439f54817d16e3f1dbdaebfc8fbd9d41cde00db336f930"), looks := true }, told := true, goes := false }
def LawS4698CRefusesNilToldSaid : Prop := Claim7.holds Ybaf.pinned (.plain (OpenSpec.ofChange lawS4698CRefusesNilSpec)) lawS4698CRefusesNilCard
/-- ITS FALSE NEIGHBOUR. Refute it at one input. -/
def LawS4698CRefusesNilToldWrongFalsely : Prop := Claim7.holds Ybaf.pinned (.plain (OpenSpec.ofChange lawS4698CRefusesNilWrong)) lawS4698CRefusesNilCard
end Rows
end Go.Proofs.YbulkcsgsFmt
