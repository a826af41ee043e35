/-
  NARROWER THAN 'FOR EVERY INPUT', by the rows' own cells (each row's printed sentence says how): LawS4702CDecode: laid.
  DERIVED. THE GIVEN ROWS OF THIS SEAT. 3 by the template 'for every input the law returns true; each argument reads behind the call as it read before'; 0 by the template 'total and deterministic' (their statements: YbulkcsiwFmtTotals.lean).
  GIVEN WITH THE SEED: the statements are not yours to turn. If you find one false, say at which input.
  Laid BY PROGRAM, IN A SANDBOX (cutbox-rows.mjs): the forced cells as the released guide's own fill.sh prints them over the translation 249f79c28213372a… (all of the seat's roots in one cut). By AI agents, Wed Nov 11 2026. No macro, syntax, notation, axiom, sorry.
-/
import Derived.Test.YbulkcsiwFmtChecked
import GoSem.Claim
import GoSem.ClaimJoined
import GoSem.ClaimMapViews
import Derived.JoinedTies
import Derived.KernelRfl
namespace Go.Proofs.YbulkcsiwFmt
/- THE CELL 'sum', in the pinned program and in every row, IS THE sha256 OF THE DUMP (.gsa) THAT YbulkcsiwFmtProg.lean LOADS. Nothing in Lean hashes anything: it is a label: what it is worth is what the hold of that sum in a sandbox is worth. -/
noncomputable def Ybaf.pinned : Pinned := { name := "ybulkcsiwfmt", sum := "249f79c28213372a5d88886aff249399f10b61ef01ef3763766c9f1081ec1540", checked := Ybaf.checked }
namespace Rows
def none {H : Type} : Left H := { results := [], args := [] }

/- WHAT THE LISTED PACKAGE-LEVEL VARIABLES READ AS WHEN THE CALL BEGINS. Each datum BY PROGRAM (the guide's laid-datum.mjs) off the statement by which the dump's own 'gosem.cut.vars' lays the variable. In a bare row this is a premise. The card (YbulkcsiwFmtCards.lean) ties it to the program's text. -/
def laid_io_ErrShortBuffer {H : Type} : DataW H := .iface "*errors.errorString" (.ptr (.agg [.lit (.string [115, 104, 111, 114, 116, 32, 98, 117, 102, 102, 101, 114])]))
def laid_io_EOF {H : Type} : DataW H := .iface "*errors.errorString" (.ptr (.agg [.lit (.string [69, 79, 70])]))
def laid_io_ErrUnexpectedEOF {H : Type} : DataW H := .iface "*errors.errorString" (.ptr (.agg [.lit (.string [117, 110, 101, 120, 112, 101, 99, 116, 101, 100, 32, 69, 79, 70])]))
def laid_example_com_amberline_amberline_flac_defaultSpeakers {H : Type} : DataW H := .agg [.lit (.int .u32 4), .lit (.int .u32 3), .lit (.int .u32 7), .lit (.int .u32 51), .lit (.int .u32 1543), .lit (.int .u32 1551), .lit (.int .u32 1807), .lit (.int .u32 1599)]

/-- 'flac.LawS4702BModel': WHATEVER THE INPUT: true; the input reads as it did. -/
def lawS4702BModelSpec : ChangeSpec := { name := "lawS4702BModel", fn := fun _ => fun
  | [d1, d2] => { results := [.lit (.bool true)], args := [d1, d2] }
  | _ => none }
def lawS4702BModelRow : OpenClaim := { program := "ybulkcsiwfmt", sum := "249f79c28213372a5d88886aff249399f10b61ef01ef3763766c9f1081ec1540", func := "example.com/amberline/amberline/flac.LawS4702BModel", spec := "lawS4702BModel", stops := ["fmt.errorf, its operands' methods called", "fmt.Sprintf"], inPlace := ["fmt.errorf"], unfollowed := true, recurses := true, apart := false }
/-- NO THEOREM (fmt's text is open here; it may be false): for the released tool's asking of the row's closed facts alone. THE STATEMENT IS 'LawS4702BModelToldSaid' (YbulkcsiwFmtCards.lean). -/
def LawS4702BModelFormAsk : Prop := lawS4702BModelRow.holds Ybaf.pinned (OpenSpec.ofChange lawS4702BModelSpec)

/-- ITS FALSE NEIGHBOUR: 'it returns false'. Refute it at one input. -/
def lawS4702BModelWrong : ChangeSpec := { name := "lawS4702BModel", fn := fun _ => fun
  | [d1, d2] => { results := [.lit (.bool false)], args := [d1, d2] }
  | _ => none }
def LawS4702BModelWrongFormAsk : Prop := lawS4702BModelRow.holds Ybaf.pinned (OpenSpec.ofChange lawS4702BModelWrong)

/-- 'flac.LawS4702BEdge': WHATEVER THE INPUT: true; the input reads as it did. -/
def lawS4702BEdgeSpec : ChangeSpec := { name := "lawS4702BEdge", fn := fun _ => fun
  | [d1, d2] => { results := [.lit (.bool true)], args := [d1, d2] }
  | _ => none }
def lawS4702BEdgeRow : OpenClaim := { program := "ybulkcsiwfmt", sum := "249f79c28213372a5d88886aff249399f10b61ef01ef3763766c9f1081ec1540", func := "example.com/amberline/amberline/flac.LawS4702BEdge", spec := "lawS4702BEdge", stops := ["fmt.errorf, its operands' methods called", "fmt.Sprintf"], inPlace := ["fmt.errorf"], unfollowed := true, recurses := true, apart := false }
/-- NO THEOREM (fmt's text is open here; it may be false): for the released tool's asking of the row's closed facts alone. THE STATEMENT IS 'LawS4702BEdgeToldSaid' (YbulkcsiwFmtCards.lean). -/
def LawS4702BEdgeFormAsk : Prop := lawS4702BEdgeRow.holds Ybaf.pinned (OpenSpec.ofChange lawS4702BEdgeSpec)

/-- ITS FALSE NEIGHBOUR: 'it returns false'. Refute it at one input. -/
def lawS4702BEdgeWrong : ChangeSpec := { name := "lawS4702BEdge", fn := fun _ => fun
  | [d1, d2] => { results := [.lit (.bool false)], args := [d1, d2] }
  | _ => none }
def LawS4702BEdgeWrongFormAsk : Prop := lawS4702BEdgeRow.holds Ybaf.pinned (OpenSpec.ofChange lawS4702BEdgeWrong)

/-- 'flac.LawS4702CDecode': WHATEVER THE INPUT: true; the input reads as it did. -/
def lawS4702CDecodeSpec : ChangeSpec := { name := "lawS4702CDecode", vars := ["example.com/amberline/amberline/flac.defaultSpeakers"], fn := fun _ => fun
  | [d1, d2, d3, d4, g1] => { results := [.lit (.bool true)], args := [d1, d2, d3, d4], vars := [g1] }
  | _ => none }
def lawS4702CDecodeRow : OpenClaim := { program := "ybulkcsiwfmt", sum := "249f79c28213372a5d88886aff249399f10b61ef01ef3763766c9f1081ec1540", func := "example.com/amberline/amberline/flac.LawS4702CDecode", spec := "lawS4702CDecode", stops := ["fmt.errorf, its operands' methods called", "fmt.Sprintf"], inPlace := ["fmt.errorf", "internal/reflectlite.TypeOf"], unfollowed := true, recurses := true, named := ["io.ErrUnexpectedEOF", "example.com/amberline/amberline/flac.defaultSpeakers", "encoding/binary.BigEndian", "io.ErrShortBuffer", "io.EOF"], apart := false, laid := [("io.ErrShortBuffer", laid_io_ErrShortBuffer), ("io.EOF", laid_io_EOF), ("io.ErrUnexpectedEOF", laid_io_ErrUnexpectedEOF), ("example.com/amberline/amberline/flac.defaultSpeakers", laid_example_com_amberline_amberline_flac_defaultSpeakers)] }
/-- NO THEOREM (fmt's text is open here; it may be false): for the released tool's asking of the row's closed facts alone. THE STATEMENT IS 'LawS4702CDecodeToldSaid' (YbulkcsiwFmtCards.lean). -/
def LawS4702CDecodeFormAsk : Prop := lawS4702CDecodeRow.holds Ybaf.pinned (OpenSpec.ofChange lawS4702CDecodeSpec)

/-- ITS FALSE NEIGHBOUR: 'it returns false'. Refute it at one input. -/
def lawS4702CDecodeWrong : ChangeSpec := { name := "lawS4702CDecode", vars := ["example.com/amberline/amberline/flac.defaultSpeakers"], fn := fun _ => fun
  | [d1, d2, d3, d4, g1] => { results := [.lit (.bool false)], args := [d1, d2, d3, d4], vars := [g1] }
  | _ => none }
def LawS4702CDecodeWrongFormAsk : Prop := lawS4702CDecodeRow.holds Ybaf.pinned (OpenSpec.ofChange lawS4702CDecodeWrong)

end Rows
end Go.Proofs.YbulkcsiwFmt
