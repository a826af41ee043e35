/-
  DERIVED. GIVEN WITH THE SEED: THE CARDS: each row of YbulkcsgsDoorRows.lean that lists a variable, with what it lists TIED to the program's text (the seventh form; the later family's looks); each row that meets fmt, with fmt's text TOLD by the authors' own Lean function (tested against real Go, not proved from fmt's source: count such statements apart). THE CARD IS WHAT COUNTS. Prove the row's statement (the work); the ties are given (YbulkcsgsDoorTie.lean); close each card by the builder's one call (the guide's Derived/Test/ToyasCard.lean, 'card_holds'). Laid BY PROGRAM, IN A SANDBOX (cutbox-door.mjs). By AI agents, Wed Nov 11 2026. No macro, syntax, notation, axiom, sorry.
-/
import Derived.Test.YbulkcsgsDoorRows
import GoSem.ClaimSeven
namespace Go.Proofs.YbulkcsgsDoor
namespace Rows

/-- THE TIED CARD OF 'roamkey.LawS4698AModel'. -/
def lawS4698AModelCard : Claim7 := { stood := { row := lawS4698AModelRow, standIns := [], harness := (true, "916895c5d9d4caa0b06ada2bf144989a9d6504914cb014074c34753e5a45be5a"), looks := false }, kinds := [], alts := [], laidByText := true, laidKinds := [.data], laidTests := true, laidLooks := .later }
def LawS4698AModelCardSaid : Prop := Claim7.holds Ybad.pinned (.plain (OpenSpec.ofChange lawS4698AModelSpec)) lawS4698AModelCard

/-- THE TIED CARD OF 'roamkey.LawS4698AAuts'. -/
def lawS4698AAutsCard : Claim7 := { stood := { row := lawS4698AAutsRow, standIns := [], harness := (true, "916895c5d9d4caa0b06ada2bf144989a9d6504914cb014074c34753e5a45be5a"), looks := false }, kinds := [], alts := [], laidByText := true, laidKinds := [.data, .widerDeep], laidTests := true, laidLooks := .later }
def LawS4698AAutsCardSaid : Prop := Claim7.holds Ybad.pinned (.plain (OpenSpec.ofChange lawS4698AAutsSpec)) lawS4698AAutsCard
end Rows
end Go.Proofs.YbulkcsgsDoor
