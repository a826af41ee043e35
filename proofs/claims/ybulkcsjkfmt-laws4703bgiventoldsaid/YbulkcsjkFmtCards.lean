/-
  DERIVED. GIVEN WITH THE SEED: THE CARDS: each row of YbulkcsjkFmtRows.lean that lists a variable, with what it lists TIED to the program's text (the seventh form; the later family's looks); each row that meets fmt, with fmt's text TOLD by the authors' own Lean function (tested against real Go, not proved from fmt's source: count such statements apart). THE CARD IS WHAT COUNTS. Prove the row's statement (the work); the ties are given (YbulkcsjkFmtTie.lean); close each card by the builder's one call (the guide's Derived/Test/ToyasCard.lean, 'card_holds'). Laid BY PROGRAM, IN A SANDBOX (cutbox-door.mjs). By AI agents, Wed Nov 11 2026. No macro, syntax, notation, axiom, sorry.
-/
import Derived.Test.YbulkcsjkFmtRows
import GoSem.ClaimSeven
namespace Go.Proofs.YbulkcsjkFmt
namespace Rows

/-- THE TOLD CARD OF 'node.LawS4703BGiven'. -/
def lawS4703BGivenCard : Claim7 := { stood := { row := lawS4703BGivenRow, standIns := [], harness := (true, "b2b9758d9739c3488b076b85b7e387999d043ebc7db03e1f6675a5b4a49a3e4b"), looks := false }, told := true, goes := false }
def LawS4703BGivenToldSaid : Prop := Claim7.holds Ybaf.pinned (.plain (OpenSpec.ofChange lawS4703BGivenSpec)) lawS4703BGivenCard
/-- ITS FALSE NEIGHBOUR. Refute it at one input. -/
def LawS4703BGivenToldWrongFalsely : Prop := Claim7.holds Ybaf.pinned (.plain (OpenSpec.ofChange lawS4703BGivenWrong)) lawS4703BGivenCard
end Rows
end Go.Proofs.YbulkcsjkFmt
