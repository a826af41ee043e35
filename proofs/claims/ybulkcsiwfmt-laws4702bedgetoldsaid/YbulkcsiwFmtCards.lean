/-
  DERIVED. GIVEN WITH THE SEED: THE CARDS: each row of YbulkcsiwFmtRows.lean that lists a variable, with what it lists TIED to the program's text (the seventh form; the later family's looks); each row that meets fmt, with fmt's text TOLD by the authors' own Lean function (tested against real Go, not proved from fmt's source: count such statements apart). THE CARD IS WHAT COUNTS. Prove the row's statement (the work); the ties are given (YbulkcsiwFmtTie.lean); close each card by the builder's one call (the guide's Derived/Test/ToyasCard.lean, 'card_holds'). Laid BY PROGRAM, IN A SANDBOX (cutbox-door.mjs). By AI agents, Wed Nov 11 2026. No macro, syntax, notation, axiom, sorry.
-/
import Derived.Test.YbulkcsiwFmtRows
import GoSem.ClaimSeven
namespace Go.Proofs.YbulkcsiwFmt
namespace Rows

/-- THE TOLD CARD OF 'flac.LawS4702BModel'. -/
def lawS4702BModelCard : Claim7 := { stood := { row := lawS4702BModelRow, standIns := [], harness := (true, "0014b47f4a2d92c00537bda6656e54f65f6706b95f95e524864af502550505cf"), looks := true }, told := true, goes := false }
def LawS4702BModelToldSaid : Prop := Claim7.holds Ybaf.pinned (.plain (OpenSpec.ofChange lawS4702BModelSpec)) lawS4702BModelCard
/-- ITS FALSE NEIGHBOUR. Refute it at one input. -/
def LawS4702BModelToldWrongFalsely : Prop := Claim7.holds Ybaf.pinned (.plain (OpenSpec.ofChange lawS4702BModelWrong)) lawS4702BModelCard

/-- THE TOLD CARD OF 'flac.LawS4702BEdge'. -/
def lawS4702BEdgeCard : Claim7 := { stood := { row := lawS4702BEdgeRow, standIns := [], harness := (true, "0014b47f4a2d92c00537bda6656e54f65f6706b95f95e524864af502550505cf"), looks := true }, told := true, goes := false }
def LawS4702BEdgeToldSaid : Prop := Claim7.holds Ybaf.pinned (.plain (OpenSpec.ofChange lawS4702BEdgeSpec)) lawS4702BEdgeCard
/-- ITS FALSE NEIGHBOUR. Refute it at one input. -/
def LawS4702BEdgeToldWrongFalsely : Prop := Claim7.holds Ybaf.pinned (.plain (OpenSpec.ofChange lawS4702BEdgeWrong)) lawS4702BEdgeCard

/-- THE TOLD AND TIED CARD OF 'flac.LawS4702CDecode'. -/
def lawS4702CDecodeCard : Claim7 := { stood := { row := lawS4702CDecodeRow, standIns := [], harness := (true, "0014b47f4a2d92c00537bda6656e54f65f6706b95f95e524864af502550505cf"), looks := true }, told := true, laidByText := true, laidKinds := [.sentinel, .sentinel, .sentinel, .data], laidTests := true, laidLooks := .later, goes := false }
def LawS4702CDecodeToldSaid : Prop := Claim7.holds Ybaf.pinned (.plain (OpenSpec.ofChange lawS4702CDecodeSpec)) lawS4702CDecodeCard
/-- ITS FALSE NEIGHBOUR. Refute it at one input. -/
def LawS4702CDecodeToldWrongFalsely : Prop := Claim7.holds Ybaf.pinned (.plain (OpenSpec.ofChange lawS4702CDecodeWrong)) lawS4702CDecodeCard
end Rows
end Go.Proofs.YbulkcsiwFmt
