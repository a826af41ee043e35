/-
  THE CLOSED FACTS of this seat's program that the walks and the frame lean on: fmt's calling stop, the stops, the types' sizes. Typed after the guide's PortFmt.lean. And fmt.Errorf by its contract at checkRange's one format.
-/
import Derived.Test.YbulkcsiwFmtRows
import Derived.Stop.CallBack
import Derived.Stop.IfaceNil
import Derived.WalkKit
import Derived.WalkSpells
import Derived.WalkLawsBesides
import Derived.BigCall
import Derived.Handy
import GoSem.ClaimData
namespace Go.Proofs.YbulkcsiwFmt
open Go.RowKit Go.Extern.Stop Go.Stop Go.Extern

theorem own : ownKnob Ybaf.prog.godebug = none := by kernel_rfl
theorem laidOut : laidOutB Ybaf.prog = true := by kernel_rfl
theorem laidOutP : laidOutB Ybaf.pinned.checked.prog = true := by kernel_rfl
theorem stopsP : Ybaf.pinned.checked.prog.stops = Rows.lawS4702BModelRow.stops := by kernel_rfl
theorem stopKnobsP : Ybaf.pinned.checked.prog.stopKnobs = [] := by kernel_rfl
theorem quietP (os : Os) : Stop.quiet Ybaf.pinned.checked.prog os := by
  intro k hk
  rw [stopKnobsP] at hk
  cases hk
theorem call20 (args : Array Value) (w : World) : (callFunc 20 args).run Ybaf.prog w = (FmtCalls.errorf #[9, 77] #[27] args).run Ybaf.prog w :=
  run_callFunc_next Ybaf.func20 (by kernel_rfl) (by kernel_rfl) (by kernel_rfl) args w
theorem guard (name : String) (w : World) : (FmtStop.guard name).run Ybaf.prog w = .ok () w := by kernel_rfl
theorem nextTurns : Extern.next FmtCalls.turnsRow = some (FmtCalls.begun #[] #[]) := by kernel_rfl
/-- checkRange's format, as bytes. -/
theorem fmt0 : FmtStop.printed? ⟨#[115, 97, 109, 112, 108, 101, 32, 37, 100, 32, 111, 102, 32, 99, 104, 97, 110, 110, 101, 108, 32, 37, 100, 32, 105, 115, 32, 37, 100, 44, 32, 98, 101, 121, 111, 110, 100, 32, 37, 100, 32, 98, 105, 116, 115]⟩ 4 = some [(0, 100, false), (1, 100, false), (2, 100, false), (3, 100, false)] := by kernel_rfl
theorem fmt0r (w : World) : (FmtDoors.printed ⟨#[115, 97, 109, 112, 108, 101, 32, 37, 100, 32, 111, 102, 32, 99, 104, 97, 110, 110, 101, 108, 32, 37, 100, 32, 105, 115, 32, 37, 100, 44, 32, 98, 101, 121, 111, 110, 100, 32, 37, 100, 32, 98, 105, 116, 115]⟩ 4).run Ybaf.prog w = .ok [(0, 100, false), (1, 100, false), (2, 100, false), (3, 100, false)] w := by kernel_rfl
def shape3 : List UInt8 := [5, 3, 0, 0, 0, 0, 0, 0, 0, 105, 110, 116]
def shape2 : List UInt8 := [5, 5, 0, 0, 0, 0, 0, 0, 0, 105, 110, 116, 54, 52]
def shape23 : List UInt8 := [9, 4, 0, 0, 0, 0, 0, 0, 0, 117, 105, 110, 116]
theorem act3 (name : String) (x : Value) (w : World) : (FmtCalls.act name true 100 false (.iface 3 x)).run Ybaf.prog w = .ok (.closed true) w := by kernel_rfl
theorem act2 (name : String) (x : Value) (w : World) : (FmtCalls.act name true 100 false (.iface 2 x)).run Ybaf.prog w = .ok (.closed true) w := by kernel_rfl
theorem act23 (name : String) (x : Value) (w : World) : (FmtCalls.act name true 100 false (.iface 23 x)).run Ybaf.prog w = .ok (.closed true) w := by kernel_rfl
theorem op3 (name : String) (x : Int) (w : World) : (FmtStop.operand name true 100 false (.iface 3 (.int .i64 x))).run Ybaf.prog w = .ok (shape3, Go.Extern.Stop.digits 8 (x % 2 ^ 64).toNat) w := by kernel_rfl
theorem op2 (name : String) (x : Int) (w : World) : (FmtStop.operand name true 100 false (.iface 2 (.int .i64 x))).run Ybaf.prog w = .ok (shape2, Go.Extern.Stop.digits 8 (x % 2 ^ 64).toNat) w := by kernel_rfl
theorem op23 (name : String) (x : Int) (w : World) : (FmtStop.operand name true 100 false (.iface 23 (.int .u64 x))).run Ybaf.prog w = .ok (shape23, Go.Extern.Stop.digits 8 (x % 2 ^ 64).toNat) w := by kernel_rfl
theorem ptr91 (w : World) : (FmtStop.ptrTo "errors.errorString").run Ybaf.prog w = .ok 91 w := by kernel_rfl
theorem elem91 (w : World) : (elemOf 91).run Ybaf.prog w = .ok 93 w := by kernel_rfl
attribute [local go_sem] call20 guard fmt0 fmt0r act3 act2 act23 op3 op2 op23 ptr91 elem91

set_option maxHeartbeats 800000 in
theorem errorf12 (F : Interp) (i c v b : Int) (blk : Nat) (w : World) (hF : F.answers w.tape)
    (hc0 : w.cell? ⟨blk, 0, none⟩ = some (.iface 3 (.int .i64 i))) (hc1 : w.cell? ⟨blk, 1, none⟩ = some (.iface 3 (.int .i64 c))) (hc2 : w.cell? ⟨blk, 2, none⟩ = some (.iface 2 (.int .i64 v))) (hc3 : w.cell? ⟨blk, 3, none⟩ = some (.iface 23 (.int .u64 b))) :
    Calls Ybaf.prog 12 #[.string ⟨#[115, 97, 109, 112, 108, 101, 32, 37, 100, 32, 111, 102, 32, 99, 104, 97, 110, 110, 101, 108, 32, 37, 100, 32, 105, 115, 32, 37, 100, 44, 32, 98, 101, 121, 111, 110, 100, 32, 37, 100, 32, 98, 105, 116, 115]⟩, .slice (some ⟨blk, 0, none⟩) 4 4] w fun e w' =>
      e = .returned (.iface 91 (.pointer (some ⟨w.heap.size, 0, none⟩))) ∧ Below w.heap.size w w' := by
  have hF' := hF
  unfold Interp.answers at hF'
  go_enter Ybaf.func12, Ybaf.ntmps12
  go_wp2
  apply rows_value nextTurns
  case hr =>
    go_simp
    exact ⟨rfl, rfl⟩
  case h =>
    go_wp2
    go_ret
    exact ⟨rfl, by go_grown⟩

end Go.Proofs.YbulkcsiwFmt
