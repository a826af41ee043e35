/-
  No cell of these rows narrows 'for every input' (looked for: loops, veiled, ifaces, maps, wideKeys, modest, calm, conditions, laid).
  DERIVED. THE GIVEN ROWS OF THIS SEAT. 2 by the template 'for every input the law returns true; each argument reads behind the call as it read before'; 0 by the template 'total and deterministic' (their statements: YbulkcsgsFmtTotals.lean).
  GIVEN WITH THE SEED: the statements are not yours to turn. If you find one false, say at which input.
  Laid BY PROGRAM, IN A SANDBOX (cutbox-rows.mjs): the forced cells as the released guide's own fill.sh prints them over the translation 3acf3df5de9f4c33… (all of the seat's roots in one cut). By AI agents, Wed Nov 11 2026. No macro, syntax, notation, axiom, sorry.
-/
import Derived.Test.YbulkcsgsFmtChecked
import GoSem.Claim
import GoSem.ClaimJoined
import GoSem.ClaimMapViews
import Derived.JoinedTies
import Derived.KernelRfl
namespace Go.Proofs.YbulkcsgsFmt
/- THE CELL 'sum', in the pinned program and in every row, IS THE sha256 OF THE DUMP (.gsa) THAT YbulkcsgsFmtProg.lean LOADS. Nothing in Lean hashes anything: it is a label: what it is worth is what the hold of that sum in a sandbox is worth. -/
noncomputable def Ybaf.pinned : Pinned := { name := "ybulkcsgsfmt", sum := "3acf3df5de9f4c336a96816cafe3b9ff33e8bc08dd2f6a43f3c4f06a6668c9ec", checked := Ybaf.checked }
namespace Rows
def none {H : Type} : Left H := { results := [], args := [] }

/-- 'roamkey.LawS4698CBuilds': WHATEVER THE INPUT: true; the input reads as it did. -/
def lawS4698CBuildsSpec : ChangeSpec := { name := "lawS4698CBuilds", fn := fun _ => fun
  | [d1, d2, d3, d4] => { results := [.lit (.bool true)], args := [d1, d2, d3, d4] }
  | _ => none }
def lawS4698CBuildsRow : OpenClaim := { program := "ybulkcsgsfmt", sum := "3acf3df5de9f4c336a96816cafe3b9ff33e8bc08dd2f6a43f3c4f06a6668c9ec", func := "example.com/roamkey/roamkey.LawS4698CBuilds", spec := "lawS4698CBuilds", stops := ["fmt.errorf"], inPlace := ["fmt.errorf"], plainKeys := false, apart := false }
/-- NO THEOREM (fmt's text is open here; it may be false): for the released tool's asking of the row's closed facts alone. THE STATEMENT IS 'LawS4698CBuildsToldSaid' (YbulkcsgsFmtCards.lean). -/
def LawS4698CBuildsFormAsk : Prop := lawS4698CBuildsRow.holds Ybaf.pinned (OpenSpec.ofChange lawS4698CBuildsSpec)

/-- ITS FALSE NEIGHBOUR: 'it returns false'. Refute it at one input. -/
def lawS4698CBuildsWrong : ChangeSpec := { name := "lawS4698CBuilds", fn := fun _ => fun
  | [d1, d2, d3, d4] => { results := [.lit (.bool false)], args := [d1, d2, d3, d4] }
  | _ => none }
def LawS4698CBuildsWrongFormAsk : Prop := lawS4698CBuildsRow.holds Ybaf.pinned (OpenSpec.ofChange lawS4698CBuildsWrong)

/-- 'roamkey.LawS4698CRefusesNil': WHATEVER THE INPUT: true; the input reads as it did. -/
def lawS4698CRefusesNilSpec : ChangeSpec := { name := "lawS4698CRefusesNil", fn := fun _ => fun
  | [d1, d2, d3, d4] => { results := [.lit (.bool true)], args := [d1, d2, d3, d4] }
  | _ => none }
def lawS4698CRefusesNilRow : OpenClaim := { program := "ybulkcsgsfmt", sum := "3acf3df5de9f4c336a96816cafe3b9ff33e8bc08dd2f6a43f3c4f06a6668c9ec", func := "example.com/roamkey/roamkey.LawS4698CRefusesNil", spec := "lawS4698CRefusesNil", stops := ["fmt.errorf"], inPlace := ["fmt.errorf"], plainKeys := false, apart := false }
/-- NO THEOREM (fmt's text is open here; it may be false): for the released tool's asking of the row's closed facts alone. THE STATEMENT IS 'LawS4698CRefusesNilToldSaid' (YbulkcsgsFmtCards.lean). -/
def LawS4698CRefusesNilFormAsk : Prop := lawS4698CRefusesNilRow.holds Ybaf.pinned (OpenSpec.ofChange lawS4698CRefusesNilSpec)

/-- ITS FALSE NEIGHBOUR: 'it returns false'. Refute it at one input. -/
def lawS4698CRefusesNilWrong : ChangeSpec := { name := "lawS4698CRefusesNil", fn := fun _ => fun
  | [d1, d2, d3, d4] => { results := [.lit (.bool false)], args := [d1, d2, d3, d4] }
  | _ => none }
def LawS4698CRefusesNilWrongFormAsk : Prop := lawS4698CRefusesNilRow.holds Ybaf.pinned (OpenSpec.ofChange lawS4698CRefusesNilWrong)

end Rows
end Go.Proofs.YbulkcsgsFmt
