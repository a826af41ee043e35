/-
  THE WALK OF LawS4698CRefusesNil: without a quintet source newAKAServer refuses.
-/
import Derived.Test.YbulkcsgsFmtBase
import Derived.WalkKit
import Derived.WalkSpells
import Derived.WalkLawsBesides
import Derived.Handy
namespace Go.Proofs.YbulkcsgsFmt
open Go.RowKit Go.Extern.Stop Go.Stop Go.Extern
attribute [local go_sem] call8 guard fmt0 fmt0r op9_115 op9_115w ptr70 elem70

set_option maxHeartbeats 400000 in
theorem nil_long (s : ByteArray) (a : Option Addr) (len cap : Nat) (b : Bool) (n : Int) (w : World) (h : 4096 < (s.size : Int) ∨ 4096 < (len : Int)) :
    Calls Ybaf.prog 4 #[.string s, .slice a len cap, .bool b, .int .u8 n] w fun e w' => e = .returned (.bool true) ∧ Below w.heap.size w w' := by
  by_cases h1 : 4096 < (s.size : Int)
  · clear h
    go_enter Ybaf.func4, Ybaf.ntmps4
    go_wp2
    go_ret
    exact ⟨rfl, Below.refl _ _⟩
  · have h2 : 4096 < (len : Int) := by omega
    clear h
    go_enter Ybaf.func4, Ybaf.ntmps4
    go_wp2
    go_ret
    exact ⟨rfl, Below.refl _ _⟩

set_option maxHeartbeats 400000 in
theorem nil_short (F : Interp) (s : ByteArray) (a : Option Addr) (len cap : Nat) (b : Bool) (n : Int) (w : World) (hF : F.answers w.tape) (h1 : ¬ 4096 < (s.size : Int)) (h2 : ¬ 4096 < (len : Int)) :
    Calls Ybaf.prog 4 #[.string s, .slice a len cap, .bool b, .int .u8 n] w fun e w' => e = .returned (.bool true) ∧ Below w.heap.size w w' := by
  have hF' := hF
  unfold Interp.answers at hF'
  go_enter Ybaf.func4, Ybaf.ntmps4
  go_wp2
  go_ret
  exact ⟨rfl, by go_grown⟩

end Go.Proofs.YbulkcsgsFmt
