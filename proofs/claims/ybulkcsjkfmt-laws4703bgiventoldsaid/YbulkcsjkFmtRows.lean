/-
  No cell of these rows narrows 'for every input' (looked for: loops, veiled, ifaces, maps, wideKeys, modest, calm, conditions, laid).
  DERIVED. THE GIVEN ROWS OF THIS SEAT. 1 by the template 'for every input the law returns true; each argument reads behind the call as it read before'; 0 by the template 'total and deterministic' (their statements: YbulkcsjkFmtTotals.lean).
  GIVEN WITH THE SEED: the statements are not yours to turn. If you find one false, say at which input.
  Laid BY PROGRAM, IN A SANDBOX (cutbox-rows.mjs): the forced cells as the released guide's own fill.sh prints them over the translation a65b9e7059c6537c… (all of the seat's roots in one cut). By AI agents, Wed Nov 11 2026. No macro, syntax, notation, axiom, sorry.
-/
import Derived.Test.YbulkcsjkFmtChecked
import GoSem.Claim
import GoSem.ClaimJoined
import GoSem.ClaimMapViews
import Derived.JoinedTies
import Derived.KernelRfl
namespace Go.Proofs.YbulkcsjkFmt
/- THE CELL 'sum', in the pinned program and in every row, IS THE sha256 OF THE DUMP (.gsa) THAT YbulkcsjkFmtProg.lean LOADS. Nothing in Lean hashes anything: it is a label: what it is worth is what the hold of that sum in a sandbox is worth. -/
noncomputable def Ybaf.pinned : Pinned := { name := "ybulkcsjkfmt", sum := "a65b9e7059c6537c6b2ea19f544f7f7b44f87ff8f5b4a3ebe35dd83eb20cec93", checked := Ybaf.checked }
namespace Rows
def none {H : Type} : Left H := { results := [], args := [] }

/-- 'node.LawS4703BGiven': WHATEVER THE INPUT: true; the input reads as it did. -/
def lawS4703BGivenSpec : ChangeSpec := { name := "lawS4703BGiven", fn := fun _ => fun
  | [d1, d2, d3] => { results := [.lit (.bool true)], args := [d1, d2, d3] }
  | _ => none }
def lawS4703BGivenRow : OpenClaim := { program := "ybulkcsjkfmt", sum := "a65b9e7059c6537c6b2ea19f544f7f7b44f87ff8f5b4a3ebe35dd83eb20cec93", func := "example.com/torusmap/torusmap/internal/node.LawS4703BGiven", spec := "lawS4703BGiven", stops := ["fmt.errorf"], inPlace := ["fmt.errorf"], apart := false }
/-- NO THEOREM (fmt's text is open here; it may be false): for the released tool's asking of the row's closed facts alone. THE STATEMENT IS 'LawS4703BGivenToldSaid' (YbulkcsjkFmtCards.lean). -/
def LawS4703BGivenFormAsk : Prop := lawS4703BGivenRow.holds Ybaf.pinned (OpenSpec.ofChange lawS4703BGivenSpec)

/-- ITS FALSE NEIGHBOUR: 'it returns false'. Refute it at one input. -/
def lawS4703BGivenWrong : ChangeSpec := { name := "lawS4703BGiven", fn := fun _ => fun
  | [d1, d2, d3] => { results := [.lit (.bool false)], args := [d1, d2, d3] }
  | _ => none }
def LawS4703BGivenWrongFormAsk : Prop := lawS4703BGivenRow.holds Ybaf.pinned (OpenSpec.ofChange lawS4703BGivenWrong)

end Rows
end Go.Proofs.YbulkcsjkFmt
