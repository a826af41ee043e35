/-
  givenPoint (function 4).
-/
import Derived.Test.YbulkcsjkFmtBase
import Derived.Deep.CutRange
import Derived.Deep.DeepCutAuto
import Derived.Deep.RegionHeld3
import Derived.BigQuiet
namespace Go.Proofs.YbulkcsjkFmt
open Go.RowKit Go.Extern.Stop Go.Stop Go.Extern

set_option maxHeartbeats 400000 in
theorem given_same (q : Nat) (a : Option Addr) (len cap : Nat) (w : World) (hc : w.cell? ⟨q, 10, none⟩ = some (.slice a len cap)) :
    Calls Ybaf.prog 4 #[.pointer (some ⟨q, 0, none⟩), .int .i64 len] w fun e w' => e = .returned (.tuple #[.slice a len cap, .nilIface]) ∧ w' = w := by
  go_enter Ybaf.func4, Ybaf.ntmps4
  go_wp2_with fail
  go_ret2
  exact ⟨rfl, rfl⟩

theorem cell_below {B : Nat} {w w' : World} (h : Below B w w') (a : Addr) (ha : a.block < B) : w'.cell? a = w.cell? a := World.cell?_of_block (h.block _ ha)

set_option maxHeartbeats 400000 in
theorem given_other (F : Interp) (q : Nat) (a : Option Addr) (len cap : Nat) (z : Nat → Int) (d : Int) (w : World) (hF : F.answers w.tape) (hd : ¬ (len : Int) = d) (hc : w.cell? ⟨q, 10, none⟩ = some (.slice a len cap)) (hr : ∀ x, a = some x → ∀ i, i < len → w.cell? (x.add i) = some (.int .u32 (z i))) :
    Calls Ybaf.prog 4 #[.pointer (some ⟨q, 0, none⟩), .int .i64 d] w fun e w' => ∃ t v, e = .returned (.tuple #[.slice none 0 0, .iface t v]) ∧ Below w.heap.size w w' := by
  have hq : q < w.heap.size := World.block_lt_of_cell? _ _ hc
  have hq' : ¬ q = w.heap.size := by omega
  have hr2 : ∀ o : Obj, ∀ x, a = some x → ∀ i, i < len → (w.alloc o).drew.cell? (x.add i) = some (.int .u32 (z i)) := fun o x hx i hi => by
    have h := hr x hx i hi
    exact (World.cell?_alloc_lt w o (x.add i) (World.block_lt_of_cell? _ _ h)).trans h
  obtain ⟨rd, hop⟩ := op23 "fmt.errorf" a len cap z (w.alloc (.cells #[.iface 23 (.slice a len cap), .iface 3 (.int .i64 (len : Int)), .iface 3 (.int .i64 d)] 20)).drew (hr2 _)
  have hE := errorf5 F (.slice a len cap) len d w.heap.size (w.alloc (.cells #[.iface 23 (.slice a len cap), .iface 3 (.int .i64 (len : Int)), .iface 3 (.int .i64 d)] 20)).drew hF rd hop (by simp) (by simp) (by simp)
  obtain ⟨W2, hW2⟩ : ∃ W2, W2 = (w.alloc (.cells #[.iface 23 (.slice a len cap), .iface 3 (.int .i64 (len : Int)), .iface 3 (.int .i64 d)] 20)).drew := ⟨_, rfl⟩
  rw [← hW2] at hE
  have q2 : q < W2.heap.size := by rw [hW2]; simp; omega
  have z2 : w.heap.size ≤ W2.heap.size := by rw [hW2]; simp
  have C2 : Hid (W2.cell? ⟨q, 10, none⟩ = some (.slice a len cap) ∧ Below w.heap.size w W2) := by
    rw [hW2]
    exact ⟨(World.cell?_alloc_past _ q 10 hq).trans hc, ((Below.refl _ w).alloc (Nat.le_refl _) _).drew⟩
  have HE : Hid (W2 = _ ∧ Calls _ _ _ _ _) := ⟨hW2, hE⟩
  clear hr hr2 hop hE hW2
  go_enter Ybaf.func4, Ybaf.ntmps4
  go_upto_region 2 with fail
  go_region_held (fun w' => w'.cell? ⟨q, 10, none⟩ = some (.slice a len cap))
    (first | exact hc | exact (World.cell?_alloc_past _ q 10 hq).trans hc | exact (cell_below b9 _ q2).trans C2.out.1)
    (first | (go_at_call 5
              rw [← HE.out.1]
              refine Calls.mono HE.out.2 ?_
              rintro e w9 ⟨rfl, b9⟩))
  all_goals
    go_wp2_with fail
    go_ret2
    exact ⟨_, _, rfl, C2.out.2.trans (b9.mono z2)⟩
end Go.Proofs.YbulkcsjkFmt
