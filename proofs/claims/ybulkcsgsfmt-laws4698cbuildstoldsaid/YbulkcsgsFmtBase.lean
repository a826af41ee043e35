/-
  THE CLOSED FACTS of this seat's program that the walks and the frame lean on: fmt's stopped front, the stops, the types' sizes. Typed after the guide's CheckFmt.lean.
-/
import Derived.Test.YbulkcsgsFmtRows
import Derived.Stop.CallBack
import Derived.Stop.IfaceNil
import GoSem.ClaimData
namespace Go.Proofs.YbulkcsgsFmt
open Go.Extern.Stop Go.Stop Go.Extern

theorem own : ownKnob Ybaf.prog.godebug = none := by kernel_rfl
theorem laidOut : laidOutB Ybaf.prog = true := by kernel_rfl
theorem laidOutP : laidOutB Ybaf.pinned.checked.prog = true := by kernel_rfl
theorem stopsP : Ybaf.pinned.checked.prog.stops = ["fmt.errorf"] := by kernel_rfl
theorem stopKnobsP : Ybaf.pinned.checked.prog.stopKnobs = [] := by kernel_rfl
theorem quietP (os : Os) : Stop.quiet Ybaf.pinned.checked.prog os := by
  intro k hk
  rw [stopKnobsP] at hk
  cases hk

theorem call8 (args : Array Value) (w : World) : (callFunc 8 args).run Ybaf.prog w = ((FmtStop.errorf #[9, 67] #[39] args).run Ybaf.prog w).andThen fun v w' => .ok (.value v) w' :=
  run_callFunc_extern Ybaf.func8 (by kernel_rfl) (by kernel_rfl) (by kernel_rfl) (by kernel_rfl) args w
theorem guard (name : String) (w : World) : (FmtStop.guard name).run Ybaf.prog w = .ok () w := by kernel_rfl
/-- The format of newAKAServer's one complaint, as bytes. -/
theorem fmt0 : FmtStop.printed? ⟨#[37, 115, 32, 115, 101, 114, 118, 101, 114, 58, 32, 110, 111, 32, 113, 117, 105, 110, 116, 101, 116, 32, 115, 111, 117, 114, 99, 101]⟩ 1 = some [(0, 115, false)] := by kernel_rfl
theorem fmt0r (w : World) : (FmtDoors.printed ⟨#[37, 115, 32, 115, 101, 114, 118, 101, 114, 58, 32, 110, 111, 32, 113, 117, 105, 110, 116, 101, 116, 32, 115, 111, 117, 114, 99, 101]⟩ 1).run Ybaf.prog w = .ok [(0, 115, false)] w := by kernel_rfl
def shape9 : List UInt8 := [12, 6, 0, 0, 0, 0, 0, 0, 0, 115, 116, 114, 105, 110, 103]
theorem op9_115 (name : String) (x : ByteArray) (w : World) : (FmtStop.operand name false 115 false (.iface 9 (.string x))).run Ybaf.prog w = .ok (shape9, FmtStop.pack x.data.toList) w := by kernel_rfl
theorem op9_115w (name : String) (x : ByteArray) (w : World) : (FmtStop.operand name true 115 false (.iface 9 (.string x))).run Ybaf.prog w = .ok (shape9, FmtStop.pack x.data.toList) w := by kernel_rfl
theorem ptr70 (w : World) : (FmtStop.ptrTo "errors.errorString").run Ybaf.prog w = .ok 70 w := by kernel_rfl
theorem elem70 (w : World) : (elemOf 70).run Ybaf.prog w = .ok 72 w := by kernel_rfl
theorem ptr69 (w : World) : (FmtStop.ptrTo "fmt.wrapError").run Ybaf.prog w = .ok 69 w := by kernel_rfl
theorem elem69 (w : World) : (elemOf 69).run Ybaf.prog w = .ok 113 w := by kernel_rfl

end Go.Proofs.YbulkcsgsFmt
