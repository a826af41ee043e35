/-
  NARROWER THAN 'FOR EVERY INPUT', by the rows' own cells (each row's printed sentence says how): LawS4698AModel: laid · LawS4698AAuts: laid.
  DERIVED. THE GIVEN ROWS OF THIS SEAT. 2 by the template 'for every input the law returns true; each argument reads behind the call as it read before'; 0 by the template 'total and deterministic' (their statements: YbulkcsgsDoorTotals.lean).
  GIVEN WITH THE SEED: the statements are not yours to turn. If you find one false, say at which input.
  Laid BY PROGRAM, IN A SANDBOX (cutbox-rows.mjs): the forced cells as the released guide's own fill.sh prints them over the translation 1df5bd5226ae04f1… (all of the seat's roots in one cut). By AI agents, Wed Nov 11 2026. No macro, syntax, notation, axiom, sorry.
-/
import Derived.Test.YbulkcsgsDoorChecked
import GoSem.Claim
import GoSem.ClaimJoined
import GoSem.ClaimMapViews
import Derived.JoinedTies
import Derived.KernelRfl
namespace Go.Proofs.YbulkcsgsDoor
/- THE CELL 'sum', in the pinned program and in every row, IS THE sha256 OF THE DUMP (.gsa) THAT YbulkcsgsDoorProg.lean LOADS. Nothing in Lean hashes anything: it is a label: what it is worth is what the hold of that sum in a sandbox is worth. -/
noncomputable def Ybad.pinned : Pinned := { name := "ybulkcsgsdoor", sum := "1df5bd5226ae04f10021de9c301f107a835129a55ab85753fd8480730e74b71b", checked := Ybad.checked }
namespace Rows
def none {H : Type} : Left H := { results := [], args := [] }

/- WHAT THE LISTED PACKAGE-LEVEL VARIABLES READ AS WHEN THE CALL BEGINS. Each datum BY PROGRAM (the guide's laid-datum.mjs) off the statement by which the dump's own 'gosem.cut.vars' lays the variable. In a bare row this is a premise. The card (YbulkcsgsDoorCards.lean) ties it to the program's text. -/
def laid_example_com_roamkey_roamkey_milenageRC {H : Type} : DataW H := .agg [.agg [.lit (.int .u8 0), .lit (.int .u8 0)], .agg [.lit (.int .u8 8), .lit (.int .u8 0)], .agg [.lit (.int .u8 0), .lit (.int .u8 1)], .agg [.lit (.int .u8 4), .lit (.int .u8 2)], .agg [.lit (.int .u8 8), .lit (.int .u8 4)], .agg [.lit (.int .u8 12), .lit (.int .u8 8)]]
def laid_example_com_roamkey_roamkey_resyncAMF {H : Type} : DataW H := .agg [.lit (.int .u8 0), .lit (.int .u8 0)]

/-- 'roamkey.LawS4698AModel': WHATEVER THE INPUT: true; the input reads as it did. -/
def lawS4698AModelSpec : ChangeSpec := { name := "lawS4698AModel", vars := ["example.com/roamkey/roamkey.milenageRC"], fn := fun _ => fun
  | [d1, d2, d3, g1] => { results := [.lit (.bool true)], args := [d1, d2, d3], vars := [g1] }
  | _ => none }
def lawS4698AModelRow : OpenClaim := { program := "ybulkcsgsdoor", sum := "1df5bd5226ae04f10021de9c301f107a835129a55ab85753fd8480730e74b71b", func := "example.com/roamkey/roamkey.LawS4698AModel", spec := "lawS4698AModel", inPlace := ["crypto/internal/fips140/alias.AnyOverlap", "crypto/internal/fips140/subtle.xorBytes"], unfollowed := true, recurses := true, named := ["example.com/roamkey/roamkey.milenageRC"], apart := false, laid := [("example.com/roamkey/roamkey.milenageRC", laid_example_com_roamkey_roamkey_milenageRC)] }
def LawS4698AModelSaid : Prop := lawS4698AModelRow.holds Ybad.pinned (OpenSpec.ofChange lawS4698AModelSpec)

/-- ITS FALSE NEIGHBOUR: 'it returns false'. Refute it at one input. -/
def lawS4698AModelWrong : ChangeSpec := { name := "lawS4698AModel", vars := ["example.com/roamkey/roamkey.milenageRC"], fn := fun _ => fun
  | [d1, d2, d3, g1] => { results := [.lit (.bool false)], args := [d1, d2, d3], vars := [g1] }
  | _ => none }
def LawS4698AModelWrongFalsely : Prop := lawS4698AModelRow.holds Ybad.pinned (OpenSpec.ofChange lawS4698AModelWrong)

/-- 'roamkey.LawS4698AAuts': WHATEVER THE INPUT: true; the input reads as it did. -/
def lawS4698AAutsSpec : ChangeSpec := { name := "lawS4698AAuts", vars := ["example.com/roamkey/roamkey.milenageRC", "example.com/roamkey/roamkey.resyncAMF"], fn := fun _ => fun
  | [d1, d2, d3, d4, g1, g2] => { results := [.lit (.bool true)], args := [d1, d2, d3, d4], vars := [g1, g2] }
  | _ => none }
def lawS4698AAutsRow : OpenClaim := { program := "ybulkcsgsdoor", sum := "1df5bd5226ae04f10021de9c301f107a835129a55ab85753fd8480730e74b71b", func := "example.com/roamkey/roamkey.LawS4698AAuts", spec := "lawS4698AAuts", inPlace := ["crypto/internal/fips140/alias.AnyOverlap", "crypto/internal/fips140/subtle.xorBytes"], unfollowed := true, recurses := true, named := ["example.com/roamkey/roamkey.milenageRC", "example.com/roamkey/roamkey.resyncAMF"], apart := false, laid := [("example.com/roamkey/roamkey.milenageRC", laid_example_com_roamkey_roamkey_milenageRC), ("example.com/roamkey/roamkey.resyncAMF", laid_example_com_roamkey_roamkey_resyncAMF)] }
def LawS4698AAutsSaid : Prop := lawS4698AAutsRow.holds Ybad.pinned (OpenSpec.ofChange lawS4698AAutsSpec)

/-- ITS FALSE NEIGHBOUR: 'it returns false'. Refute it at one input. -/
def lawS4698AAutsWrong : ChangeSpec := { name := "lawS4698AAuts", vars := ["example.com/roamkey/roamkey.milenageRC", "example.com/roamkey/roamkey.resyncAMF"], fn := fun _ => fun
  | [d1, d2, d3, d4, g1, g2] => { results := [.lit (.bool false)], args := [d1, d2, d3, d4], vars := [g1, g2] }
  | _ => none }
def LawS4698AAutsWrongFalsely : Prop := lawS4698AAutsRow.holds Ybad.pinned (OpenSpec.ofChange lawS4698AAutsWrong)

end Rows
end Go.Proofs.YbulkcsgsDoor
