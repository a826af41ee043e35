/-
  THE CLOSED FACTS of this seat's program that the walks and the frame lean on: fmt's stopped front at a slice of uint32 too, the stops, the types' sizes. Typed after the guide's CheckFmt.lean. And fmt.Errorf by its contract at givenPoint's one format.
-/
import Derived.Test.YbulkcsjkFmtRows
import Derived.Stop.CallBack
import Derived.Stop.IfaceNil
import Derived.WalkKit
import Derived.WalkSpells
import Derived.WalkLawsBesides
import Derived.BigCall
import Derived.Handy
import GoSem.ClaimData
namespace Go.Proofs.YbulkcsjkFmt
open Go.RowKit Go.Extern.Stop Go.Stop Go.Extern

theorem own : ownKnob Ybaf.prog.godebug = none := by kernel_rfl
theorem laidOut : laidOutB Ybaf.prog = true := by kernel_rfl
theorem laidOutP : laidOutB Ybaf.pinned.checked.prog = true := by kernel_rfl
theorem stopsP : Ybaf.pinned.checked.prog.stops = Rows.lawS4703BGivenRow.stops := by kernel_rfl
theorem stopKnobsP : Ybaf.pinned.checked.prog.stopKnobs = [] := by kernel_rfl
theorem quietP (os : Os) : Stop.quiet Ybaf.pinned.checked.prog os := by
  intro k hk
  rw [stopKnobsP] at hk
  cases hk
theorem call6 (args : Array Value) (w : World) : (callFunc 6 args).run Ybaf.prog w = ((FmtStop.errorf #[9, 50] #[43] args).run Ybaf.prog w).andThen fun v w' => .ok (.value v) w' :=
  run_callFunc_extern Ybaf.func6 (by kernel_rfl) (by kernel_rfl) (by kernel_rfl) (by kernel_rfl) args w
theorem guard (name : String) (w : World) : (FmtStop.guard name).run Ybaf.prog w = .ok () w := by kernel_rfl
/-- givenPoint's format, as bytes. -/
theorem fmt0 : FmtStop.printed? ⟨#[112, 111, 105, 110, 116, 32, 37, 118, 32, 104, 97, 115, 32, 37, 100, 32, 99, 111, 111, 114, 100, 105, 110, 97, 116, 101, 115, 44, 32, 110, 111, 116, 32, 37, 100]⟩ 3 = some [(0, 118, false), (1, 100, false), (2, 100, false)] := by kernel_rfl
theorem fmt0r (w : World) : (FmtDoors.printed ⟨#[112, 111, 105, 110, 116, 32, 37, 118, 32, 104, 97, 115, 32, 37, 100, 32, 99, 111, 111, 114, 100, 105, 110, 97, 116, 101, 115, 44, 32, 110, 111, 116, 32, 37, 100]⟩ 3).run Ybaf.prog w = .ok [(0, 118, false), (1, 100, false), (2, 100, false)] w := by kernel_rfl
def shape3 : List UInt8 := [5, 3, 0, 0, 0, 0, 0, 0, 0, 105, 110, 116]
theorem op3 (name : String) (x : Int) (w : World) : (FmtStop.operand name true 100 false (.iface 3 (.int .i64 x))).run Ybaf.prog w = .ok (shape3, Go.Extern.Stop.digits 8 (x % 2 ^ 64).toNat) w := by kernel_rfl
theorem ptr53 (w : World) : (FmtStop.ptrTo "errors.errorString").run Ybaf.prog w = .ok 53 w := by kernel_rfl
theorem elem53 (w : World) : (elemOf 53).run Ybaf.prog w = .ok 55 w := by kernel_rfl
/-- The type's reading: a slice, torusmap.Point, of uint32. -/
def shape23 : List UInt8 := [13, 14, 0, 0, 0, 0, 0, 0, 0, 116, 111, 114, 117, 115, 109, 97, 112, 46, 80, 111, 105, 110, 116, 8, 6, 0, 0, 0, 0, 0, 0, 0, 117, 105, 110, 116, 51, 50]
theorem op23_nil (name : String) (len cap : Nat) (w : World) : (FmtStop.operand name true 118 false (.iface 23 (.slice none len cap))).run Ybaf.prog w = .ok (shape23, [0]) w := by kernel_rfl
theorem op23_some (name : String) (a : Addr) (len cap : Nat) (w : World) : (FmtStop.operand name true 118 false (.iface 23 (.slice (some a) len cap))).run Ybaf.prog w = ((loadCells a len) >>= fun cs => (cs.toList.mapM fun c => FmtStop.value name 8 46 [c]) >>= fun vs => pure (shape23, 1 :: digits 8 len ++ vs.flatten)).run Ybaf.prog w := by kernel_rfl
theorem val46 (name : String) (x : Int) (w : World) : (FmtStop.value name 8 46 [.int .u32 x]).run Ybaf.prog w = .ok (digits 8 (x % 2 ^ 64).toNat) w := by kernel_rfl

theorem vals46 (name : String) (cs : List Value) (w : World) (h : ∀ c ∈ cs, ∃ x, c = .int .u32 x) : ∃ vs, (cs.mapM fun c => FmtStop.value name 8 46 [c]).run Ybaf.prog w = .ok vs w := by
  induction cs with
  | nil => exact ⟨[], rfl⟩
  | cons c cs ih =>
    obtain ⟨x, rfl⟩ := h c (by simp)
    obtain ⟨vs, hv⟩ := ih (fun c hc => h c (by simp [hc]))
    refine ⟨digits 8 (x % 2 ^ 64).toNat :: vs, ?_⟩
    rw [List.mapM_cons]
    simp [val46, hv]

/-- The operand %v reads, at a slice that lies whole in memory. -/
theorem op23 (name : String) (a : Option Addr) (len cap : Nat) (z : Nat → Int) (w : World) (h : ∀ x, a = some x → ∀ i, i < len → w.cell? (x.add i) = some (.int .u32 (z i))) :
    ∃ rd, (FmtStop.operand name true 118 false (.iface 23 (.slice a len cap))).run Ybaf.prog w = .ok rd w := by
  cases a with
  | none => exact ⟨_, op23_nil name len cap w⟩
  | some x =>
    have hl := run_loadCells (P := Ybaf.prog) w x len (fun i => Value.int .u32 (z i)) (h x rfl)
    obtain ⟨vs, hv⟩ := vals46 name ((List.range len).map fun i => Value.int .u32 (z i)) w (fun c hc => by
      obtain ⟨i, _, rfl⟩ := List.mem_map.1 hc
      exact ⟨_, rfl⟩)
    refine ⟨(shape23, 1 :: digits 8 len ++ vs.flatten), ?_⟩
    rw [op23_some]
    simp only [Sem.run_bind, hl, Result.andThen, hv]
    rfl

attribute [local go_sem] call6 guard fmt0 fmt0r op3 ptr53 elem53

set_option maxHeartbeats 800000 in
theorem errorf5 (F : Interp) (v : Value) (n d : Int) (blk : Nat) (w : World) (hF : F.answers w.tape) (rd : List UInt8 × List UInt8) (hop : (FmtStop.operand "fmt.errorf" true 118 false (.iface 23 v)).run Ybaf.prog w = .ok rd w)
    (hc0 : w.cell? ⟨blk, 0, none⟩ = some (.iface 23 v)) (hc1 : w.cell? ⟨blk, 1, none⟩ = some (.iface 3 (.int .i64 n))) (hc2 : w.cell? ⟨blk, 2, none⟩ = some (.iface 3 (.int .i64 d))) :
    Calls Ybaf.prog 5 #[.string ⟨#[112, 111, 105, 110, 116, 32, 37, 118, 32, 104, 97, 115, 32, 37, 100, 32, 99, 111, 111, 114, 100, 105, 110, 97, 116, 101, 115, 44, 32, 110, 111, 116, 32, 37, 100]⟩, .slice (some ⟨blk, 0, none⟩) 3 3] w fun e w' =>
      e = .returned (.iface 53 (.pointer (some ⟨w.heap.size, 0, none⟩))) ∧ Below w.heap.size w w' := by
  have hF' := hF
  unfold Interp.answers at hF'
  go_enter Ybaf.func5, Ybaf.ntmps5
  go_wp2
  go_ret
  exact ⟨rfl, by go_grown⟩

end Go.Proofs.YbulkcsjkFmt
